/-
  The priority queue: Push, Find, Length; impl.packet, impl.told. Conditions: as the queue's. By an AI agent.
-/
import Derived.Test.YtlkmmkphpiamcaaQf
namespace Go.Proofs.Ytlkmmkphpiamcaa
open Go.RowKit

def ansV (x : An) : Value := .agg #[.bool x.ok, .int .u16 x.seq, .int .i64 x.n]
def ansCells (x : An) : Array Value := #[.bool x.ok, .int .u16 x.seq, .int .i64 x.n]

set_option maxHeartbeats 800000 in
theorem told_none (t : TypeId) (x : Value) (w : World) : Calls Try.prog 46 #[.pointer none, .iface t x] w fun e w' => e = .returned (ansV ⟨false, 0, 0⟩) ∧ w' = w.alloc (.cells (ansCells ⟨false, 0, 0⟩) 59) := by
  go_enter Try.func46, Try.ntmps46
  go_wp2_with fail
  exact bodyPost_ret (v := ansV ⟨false, 0, 0⟩) (by simp [results, Try.results46, go_sem, ansV]) rfl ⟨rfl, rfl⟩
set_option maxHeartbeats 800000 in
theorem told_some (pk s t : Nat) (w : World) (h : Blk w pk 139 (pkCells s t)) : Calls Try.prog 46 #[.pointer (some ⟨pk, 0, none⟩), .nilIface] w fun e w' => e = .returned (ansV ⟨true, s, 0⟩) ∧ w' = w.alloc (.cells (ansCells ⟨true, s, 0⟩) 59) := by
  have c5 : w.cell? ⟨pk, 5, none⟩ = some (.int .u16 s) := h.cell 5
  have hlt := h.lt
  clear h
  go_enter Try.func46, Try.ntmps46
  go_wp2_with fail
  exact bodyPost_ret (v := ansV ⟨true, s, 0⟩) (by simp [results, Try.results46, go_sem, ansV]) rfl ⟨rfl, rfl⟩
set_option maxHeartbeats 800000 in
theorem packet_any (q s t : Nat) (w : World) : Calls Try.prog 45 #[.agg #[.int .i64 q, .int .u16 s, .int .u32 t]] w fun e w' => e = .returned (.pointer (some ⟨w.heap.size + 1, 0, none⟩)) ∧ w' = (w.alloc (.cells #[.int .i64 q, .int .u16 s, .int .u32 t] 45)).alloc (.cells (pkCells s t) 139) := by
  go_enter Try.func45, Try.ntmps45
  go_wp2_with fail
  go_ret
  exact ⟨rfl, rfl⟩
theorem len_any (B g L : Nat) (ns : List Nd) (w : World) (h : QL B w g ns L) : Calls Try.prog 51 #[.pointer (some ⟨g, 0, none⟩)] w fun e w' => e = .returned (.int .u16 L) ∧ w' = w := by
  obtain ⟨_, c1, _⟩ := h.hd
  clear h
  go_enter Try.func51, Try.ntmps51
  go_wp2_with fail
  go_ret
  exact ⟨rfl, rfl⟩

def FindPost (o : Option (Nd × List Nd)) (w : World) (e : Ending) (w' : World) : Prop :=
  w' = w ∧ match o with
  | none => ∃ t x, e = .returned (.tuple #[.pointer none, .iface t x])
  | some y => e = .returned (.tuple #[.pointer (some ⟨y.1.pk, 0, none⟩), .nilIface])
def findInv (w : World) (ns : List Nd) (s : Nat) (a r : List Nd) (wr : World) : Prop :=
  wr = w ∧ ns = a ++ r ∧ ∀ x ∈ a, decide (x.seq = s) = false

set_option maxRecDepth 1000000 in
set_option maxHeartbeats 800000 in
theorem find_any (B g L s : Nat) (ns : List Nd) (w : World) (h : QL B w g ns L) :
    Calls Try.prog 50 #[.pointer (some ⟨g, 0, none⟩), .int .u16 (s : Int)] w (FindPost (takeBy (fun n => decide (n.seq = s)) ns) w) := by
  obtain ⟨c0, c1, fg⟩ := h.hd
  have H := Lib.hid h
  obtain ⟨post, hpost⟩ : ∃ post, post = FindPost (takeBy (fun n => decide (n.seq = s)) ns) w := ⟨_, rfl⟩
  rw [← hpost]
  have HP := Lib.hid hpost
  clear c1 fg h hpost
  go_enter Try.func50, Try.ntmps50
  go_wp2_with fail
  clear c0
  go_loopg [6] ns.length (fun k v6 wr => ∃ a r, r.length ≤ k ∧ v6 = headV r ∧ Hid (findInv w ns s a r wr))
  case atStart => exact ⟨[], ns, Nat.le_refl _, rfl, rfl, rfl, by simp⟩
  case round =>
    obtain ⟨a, r, hk, rfl, hinv⟩ := hrel
    obtain ⟨rfl, e1, e2⟩ := hinv.out
    have E1 := Lib.hid e1
    have E2 := Lib.hid e2
    have HQ := H.out
    rw [e1] at HQ
    cases r with
    | nil =>
      clear e1 e2 hinv HQ
      rw [headV_nil]
      go_wp2_with fail
      rw [HP.out, E1.out, takeBy_none (by simpa using E2.out)]
      exact ⟨rfl, _, _, rfl⟩
    | cons m r2 =>
      obtain ⟨_, _, m0, m1, ⟨_, m2⟩, m3, fm, m5, m6⟩ := (HQ.seg.f : NdF wr m (headV r2))
      rw [headV_cons]
      by_cases hm : m.seq = s
      · subst hm
        have HT := Lib.hid (takeBy_hit (p := fun x : Nd => decide (x.seq = m.seq)) (a := a) (r := r2) (x := m) E2.out (by simp))
        clear e1 e2 hinv HQ
        go_wp2_with fail
        rw [HP.out, E1.out, HT.out]
        exact ⟨rfl, rfl⟩
      · clear e1 e2 hinv HQ
        have HM := Lib.hid hm
        go_wp2_with fail
        go_roundg (r2.length)
        case measure => simp at hk; omega
        case rel =>
          refine ⟨a ++ [m], r2, Nat.le_refl _, rfl, rfl, by rw [E1.out]; simp, fun x hx => ?_⟩
          rcases List.mem_append.1 hx with hx | hx
          · exact E2.out x hx
          · simp at hx
            subst hx
            simpa using HM.out

def PushPost (B g pk s t : Nat) (ns : List Nd) (w : World) (e : Ending) (w' : World) : Prop :=
  e = .returned (.tuple #[]) ∧ ∃ N : Nd, N.pk = pk ∧ N.seq = s ∧ N.time = t ∧ PutOk B g w w' N ns
theorem push_post {B g : Nat} {N : Nd} {ns : List Nd} {w w1 w2 : World} (hb : Touch Nowhere w w1) (h : PutOk B g w1 w2 N ns) : PushPost B g N.pk N.seq N.time ns w (.returned (.tuple #[])) w2 :=
  ⟨rfl, N, rfl, rfl, rfl, h.1, hb.qtOf h.2⟩

set_option maxRecDepth 1000000 in
set_option maxHeartbeats 1600000 in
theorem push_head (B g : Nat) (N : Nd) (ns : List Nd) (w : World) (h : QAt B w g ns) (hl : ns.length < 60000) (hB : B ≤ w.heap.size) (hN : N.blk = w.heap.size) (hpk : Blk w N.pk 139 (pkCells N.seq N.time)) (hpB : B ≤ N.pk)
    (hs : N.seq ≤ 65535) (ht : N.time ≤ 4294967295) (hh : ∀ m, ns.head? = some m → N.seq ≤ m.seq) :
    Calls Try.prog 44 #[.pointer (some ⟨g, 0, none⟩), .pointer (some ⟨N.pk, 0, none⟩), .int .u16 (N.seq : Int)] w (PushPost B g N.pk N.seq N.time ns w) := by
  obtain ⟨q1, n1⟩ := new_nd h hB hpk hpB hs ht
  have hb : Touch Nowhere w (w.alloc (.cells #[.pointer (some ⟨N.pk, 0, none⟩), .pointer none, .pointer none, .int .u16 N.seq] 132)) := (Touch.refl _ w).alloc _
  have HW : ∃ W, W = w.alloc (.cells #[.pointer (some ⟨N.pk, 0, none⟩), .pointer none, .pointer none, .int .u16 N.seq] 132) := ⟨_, rfl⟩
  obtain ⟨W, hW⟩ := HW
  rw [← hW] at q1 n1 hb
  have HWW := Lib.hid hW
  obtain ⟨c0, c1, fg⟩ := q1.hd
  obtain ⟨L, hL⟩ : ∃ L, ns.length = L := ⟨_, rfl⟩
  rw [hL] at c1
  have f0 := fg 0
  have f1 := fg 1
  have hul := u16_more L (by omega)
  have hulb := u16_self (L + 1) (by omega)
  have n1' : NewNd B W N ns := by rw [show N = ⟨w.heap.size, N.pk, N.seq, N.time⟩ by rw [← hN]]; exact n1
  have HN1 := Lib.hid n1'
  obtain ⟨_, _, nb, _, _, _, nf⟩ := n1'
  have d1 := nb.cell 1
  have d2 := nb.cell 2
  simp at d1 d2
  have e1 := nb.free 1
  have hNg : N.blk ≠ g := nb.unlike q1.head (by decide)
  have hgN := hNg.symm
  have HN := Lib.hid hN
  have HL := Lib.hid (show ns.length + 1 = L + 1 by omega)
  have HQ := Lib.hid q1
  have HB := Lib.hid hb
  have HH := Lib.hid hh
  have hcall : Calls Try.prog 67 #[.pointer (some ⟨N.pk, 0, none⟩), .int .u16 N.seq] w fun e w' => e = .returned (.pointer (some ⟨N.blk, 0, none⟩)) ∧ w' = W := by
    rw [HN.out, HWW.out]
    exact newNode_any N.pk N.seq w
  have HC := Lib.hid hcall
  cases ns with
  | nil =>
    rw [headV_nil] at c0
    clear h hl hB hN hpk hpB hs ht hh q1 n1 hb hW fg hL nb nf hcall
    go_enter Try.func44, Try.ntmps44
    go_wp2_with fail
    refine HC.out.mono ?_
    rintro e w1 ⟨rfl, rfl⟩
    go_wp2_with fail
    go_end0
    exact push_post HB.out (ph_done HQ.out HN1.out HL.out HH.out)
  | cons m r =>
    obtain ⟨_, _, m0, m1, ⟨_, m2⟩, m3, fm, m5, m6⟩ := (q1.seg.f (a := []) : NdF W m (headV r))
    have hle : N.seq ≤ m.seq := hh m rfl
    have hmN : m.blk ≠ N.blk := nf m (by simp)
    have hNm := hmN.symm
    have hmg : m.blk ≠ g := q1.notg m (by simp)
    have hgm := hmg.symm
    have fm2 := fm 2
    rw [headV_cons] at c0
    clear h hl hB hN hpk hpB hs ht hh q1 n1 hb hW fg hL nb nf hcall fm m0 m1 m5 m6
    go_enter Try.func44, Try.ntmps44
    go_wp2_with fail
    refine HC.out.mono ?_
    rintro e w1 ⟨rfl, rfl⟩
    go_wp2_with fail
    go_end0
    exact push_post HB.out (ph_done HQ.out HN1.out HL.out HH.out)
end Go.Proofs.Ytlkmmkphpiamcaa
