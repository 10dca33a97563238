/-
  The priority queue: Push behind the head. Conditions: as the queue's. By an AI agent.
-/
import Derived.Test.YtlkmmkphpiamcaaQg
namespace Go.Proofs.Ytlkmmkphpiamcaa
open Go.RowKit

def pushInv (W : World) (n : Nd) (r : List Nd) (s : Nat) (a : List Nd) (p : Nd) (r' : List Nd) (wr : World) : Prop :=
  wr = W ∧ n :: r = a ++ p :: r' ∧ ∀ x ∈ a ++ [p], x.seq < s

set_option maxRecDepth 1000000 in
set_option maxHeartbeats 4000000 in
theorem push_mid (B g : Nat) (N n : Nd) (r : List Nd) (w : World) (h : QAt B w g (n :: r)) (hl : (n :: r).length < 60000) (hB : B ≤ w.heap.size) (hN : N.blk = w.heap.size) (hpk : Blk w N.pk 139 (pkCells N.seq N.time)) (hpB : B ≤ N.pk)
    (hs : N.seq ≤ 65535) (ht : N.time ≤ 4294967295) (hh : n.seq < N.seq) :
    Calls Try.prog 44 #[.pointer (some ⟨g, 0, none⟩), .pointer (some ⟨N.pk, 0, none⟩), .int .u16 (N.seq : Int)] w (PushPost B g N.pk N.seq N.time (n :: r) w) := by
  obtain ⟨q1, n1⟩ := new_nd h hB hpk hpB hs ht
  have hb : Touch Nowhere w (w.alloc (.cells #[.pointer (some ⟨N.pk, 0, none⟩), .pointer none, .pointer none, .int .u16 N.seq] 132)) := (Touch.refl _ w).alloc _
  have HW : ∃ W, W = w.alloc (.cells #[.pointer (some ⟨N.pk, 0, none⟩), .pointer none, .pointer none, .int .u16 N.seq] 132) := ⟨_, rfl⟩
  obtain ⟨W, hW⟩ := HW
  rw [← hW] at q1 n1 hb
  have HWW := Lib.hid hW
  obtain ⟨c0, c1, fg⟩ := q1.hd
  obtain ⟨L, hL⟩ : ∃ L, (n :: r).length = L := ⟨_, rfl⟩
  rw [hL] at c1
  have f1 := fg 1
  have hul := u16_more L (by omega)
  have hulb := u16_self (L + 1) (by omega)
  have n1' : NewNd B W N (n :: r) := by rw [show N = ⟨w.heap.size, N.pk, N.seq, N.time⟩ by rw [← hN]]; exact n1
  have HN1 := Lib.hid n1'
  obtain ⟨_, _, nb, _, _, _, nf⟩ := n1'
  have d1 := nb.cell 1
  have d2 := nb.cell 2
  simp at d1 d2
  have e1 := nb.free 1
  have e2 := nb.free 2
  have hNg : N.blk ≠ g := nb.unlike q1.head (by decide)
  have hgN := hNg.symm
  have HN := Lib.hid hN
  have HL := Lib.hid hL
  have HQ := Lib.hid q1
  have HB := Lib.hid hb
  have HH := Lib.hid hh
  have HNF := Lib.hid nf
  have hcall : Calls Try.prog 67 #[.pointer (some ⟨N.pk, 0, none⟩), .int .u16 N.seq] w fun e w' => e = .returned (.pointer (some ⟨N.blk, 0, none⟩)) ∧ w' = W := by
    rw [HN.out, HWW.out]
    exact newNode_any N.pk N.seq w
  have HC := Lib.hid hcall
  obtain ⟨_, _, n0, n1, ⟨_, _⟩, n3, fn, n5, n6⟩ := (q1.seg.f (a := []) : NdF W n (headV r))
  have hno : ¬ N.seq ≤ n.seq := by omega
  have hnd : decide (N.seq ≤ n.seq) = false := by simpa using hno
  rw [headV_cons] at c0
  obtain ⟨post, hpost⟩ : ∃ post, post = PushPost B g N.pk N.seq N.time (n :: r) w := ⟨_, rfl⟩
  rw [← hpost]
  have HP := Lib.hid hpost
  clear h hl hB hN hpk hpB hs ht hh q1 hb hW fg hL nb nf hcall fn n5 n6 n0 hpost
  go_enter Try.func44, Try.ntmps44
  go_wp2_with fail
  refine HC.out.mono ?_
  rintro e w1 ⟨rfl, rfl⟩
  go_wp2_with fail
  clear c0 n1 n3 hno hnd
  go_loopg [7, 8] r.length (fun k v7 v8 wr => ∃ a p r', r'.length ≤ k ∧ v8 = .pointer (some ⟨p.blk, 0, none⟩) ∧ v7 = headV r' ∧ Hid (pushInv w1 n r N.seq a p r' wr))
  case atStart => exact ⟨[], n, r, Nat.le_refl _, rfl, rfl, rfl, rfl, by simpa using HH.out⟩
  case round =>
    obtain ⟨a, p, r', hk, rfl, rfl, hinv⟩ := hrel
    obtain ⟨rfl, e1', e2'⟩ := hinv.out
    have E1 := Lib.hid e1'
    have E2 := Lib.hid e2'
    have hQ := HQ.out
    have hN1 := HN1.out
    have hNF := HNF.out
    have hLL := HL.out
    rw [e1'] at hQ hN1 hNF hLL
    have HQ2 := Lib.hid hQ
    have HN2 := Lib.hid hN1
    have HL2 := Lib.hid (show (a ++ p :: r').length + 1 = L + 1 by omega)
    obtain ⟨_, _, _, p1, ⟨_, _⟩, _, fp, _, _⟩ := (hQ.seg.f : NdF wr p (headV r'))
    have fp1 := fp 1
    have hpN : p.blk ≠ N.blk := hNF p (by simp)
    have hNp := hpN.symm
    have hpg : p.blk ≠ g := hQ.notg p (by simp)
    have hgp := hpg.symm
    cases r' with
    | nil =>
      rw [headV_nil] at p1
      clear e1' e2' hinv hQ hN1 hNF hLL fp
      rw [headV_nil]
      go_wp2_with fail
      go_end0
      rw [HP.out, E1.out]
      exact push_post HB.out (pm_done HQ2.out HN2.out HL2.out E2.out (by simp))
    | cons m r2 =>
      obtain ⟨_, _, m0, m1, ⟨_, m2⟩, m3, fm, m5, m6⟩ := ((by have := hQ.seg; rw [show a ++ p :: m :: r2 = (a ++ [p]) ++ m :: r2 by simp] at this; exact this.f) : NdF wr m (headV r2))
      have hmg : m.blk ≠ g := hQ.notg m (by simp)
      have hgm := hmg.symm
      have hmN : m.blk ≠ N.blk := hNF m (by simp)
      have hNm := hmN.symm
      have hpm : p.blk ≠ m.blk := by
        intro e
        have hd := hQ.apart
        simp only [List.map_append, List.map_cons] at hd
        have hd2 := (List.nodup_append.1 hd).2.1
        simp [e] at hd2
      have hmp := hpm.symm
      have fm2 := fm 2
      rw [headV_cons] at p1
      rw [headV_cons]
      by_cases hm : m.seq < N.seq
      · clear e1' e2' hinv hQ hN1 hNF hLL fp fm m0 m5 m6
        go_wp2_with fail
        go_roundg (r2.length)
        case measure => simp at hk; omega
        case rel =>
          refine ⟨a ++ [p], m, r2, Nat.le_refl _, rfl, rfl, rfl, by rw [E1.out]; simp, fun x hx => ?_⟩
          rcases List.mem_append.1 hx with hx | hx
          · exact E2.out x hx
          · simp at hx
            subst hx
            exact hm
      · have hle : N.seq ≤ m.seq := by omega
        have hdd : decide (m.seq < N.seq) = false := by simpa using hm
        clear e1' e2' hinv hQ hN1 hNF hLL fp fm m0 m5 m6 m1
        go_wp2_with fail
        go_end0
        rw [HP.out, E1.out]
        exact push_post HB.out (pm_done HQ2.out HN2.out HL2.out E2.out (fun y hy => by simp at hy; subst hy; exact hle))

theorem push_any (B g pk s t : Nat) (ns : List Nd) (w : World) (h : QAt B w g ns) (hl : ns.length < 60000) (hB : B ≤ w.heap.size) (hpk : Blk w pk 139 (pkCells s t)) (hpB : B ≤ pk)
    (hs : s ≤ 65535) (ht : t ≤ 4294967295) :
    Calls Try.prog 44 #[.pointer (some ⟨g, 0, none⟩), .pointer (some ⟨pk, 0, none⟩), .int .u16 (s : Int)] w (PushPost B g pk s t ns w) := by
  by_cases hh : ∀ m, ns.head? = some m → s ≤ m.seq
  · exact push_head B g ⟨w.heap.size, pk, s, t⟩ ns w h hl hB rfl hpk hpB hs ht hh
  · cases ns with
    | nil => exact absurd (fun m hm => by simp at hm) hh
    | cons n r =>
      have hlt : n.seq < s := by
        rcases Nat.lt_or_ge n.seq s with h1 | h1
        · exact h1
        · exact absurd (fun m hm => by simp at hm; subst hm; exact h1) hh
      exact push_mid B g ⟨w.heap.size, pk, s, t⟩ n r w h hl hB rfl hpk hpB hs ht hlt
end Go.Proofs.Ytlkmmkphpiamcaa
