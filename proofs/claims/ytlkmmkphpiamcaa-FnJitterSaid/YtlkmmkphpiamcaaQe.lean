/-
  The priority queue: PopAtTimestamp. Conditions: as the queue's. By an AI agent.
-/
import Derived.Test.YtlkmmkphpiamcaaQc
namespace Go.Proofs.Ytlkmmkphpiamcaa
open Go.RowKit

set_option maxRecDepth 1000000 in
set_option maxHeartbeats 1600000 in
theorem popTime_head (B g : Nat) (n : Nd) (r : List Nd) (w : World) (h : QAt B w g (n :: r)) (hl : (n :: r).length < 60000) :
    Calls Try.prog 49 #[.pointer (some ⟨g, 0, none⟩), .int .u32 (n.time : Int)] w (TakePost B g (some (n, r)) w) := by
  obtain ⟨c0, c1, fg⟩ := h.hd
  obtain ⟨L, hL⟩ : ∃ L, r.length = L := ⟨_, rfl⟩
  have c1' : w.cell? ⟨g, 1, none⟩ = some (.int .u16 ((L + 1 : Nat) : Int)) := by rw [← hL]; exact c1
  have f0 := fg 0
  have f1 := fg 1
  obtain ⟨_, _, n0, n1, ⟨_, _⟩, n3, fn, n5, n6⟩ := (h.seg.f (a := []) : NdF w n (headV r))
  have g0 := fn 0
  have g1 := fn 1
  have hng : n.blk ≠ g := h.notg n (by simp)
  have hgn := hng.symm
  have hul := u16_less L (by simp at hl; omega)
  have hulb := u16_self L (by simp at hl; omega)
  have H := Lib.hid h
  have HL := Lib.hid hL
  rw [headV_cons] at c0
  clear c1 fg fn
  cases r with
  | nil =>
    clear h hL
    rw [headV_nil] at n1
    go_enter Try.func49, Try.ntmps49
    go_wp2_with fail
    go_ret2
    exact ⟨rfl, head_done H.out HL.out⟩
  | cons m r' =>
    obtain ⟨_, _, _, _, ⟨pv, m2⟩, _, fm, _, _⟩ := (h.seg.f (a := [n]) : NdF w m (headV r'))
    have hd := h.apart
    simp only [List.map_cons, List.nodup_cons, List.mem_cons, not_or] at hd
    have hnm : n.blk ≠ m.blk := hd.1.1
    have hmn := hnm.symm
    have hmg : m.blk ≠ g := h.notg m (by simp)
    have hgm := hmg.symm
    have f2 := fm 2
    rw [headV_cons] at n1
    clear h hL hd fm
    go_enter Try.func49, Try.ntmps49
    go_wp2_with fail
    go_ret2
    exact ⟨rfl, head_done H.out HL.out⟩

/-- Where the head is another one: the first one behind it. -/
def popTimeInv (w : World) (n : Nd) (r : List Nd) (s : Nat) (a : List Nd) (p : Nd) (r' : List Nd) (wr : World) : Prop :=
  wr = w ∧ n :: r = a ++ p :: r' ∧ ∀ x ∈ a ++ [p], decide (x.time = s) = false

set_option maxRecDepth 1000000 in
set_option maxHeartbeats 4000000 in
theorem popTime_rest (B g s : Nat) (n : Nd) (r : List Nd) (w : World) (h : QAt B w g (n :: r)) (hl : (n :: r).length < 60000) (hs : ¬ n.time = s) :
    Calls Try.prog 49 #[.pointer (some ⟨g, 0, none⟩), .int .u32 (s : Int)] w (TakePost B g (takeBy (fun n => decide (n.time = s)) (n :: r)) w) := by
  obtain ⟨c0, c1, fg⟩ := h.hd
  obtain ⟨L, hL⟩ : ∃ L, r.length = L := ⟨_, rfl⟩
  have c1' : w.cell? ⟨g, 1, none⟩ = some (.int .u16 ((L + 1 : Nat) : Int)) := by rw [← hL]; exact c1
  have f1 := fg 1
  obtain ⟨_, _, n0, n1, ⟨_, _⟩, n3, fn, n5, n6⟩ := (h.seg.f (a := []) : NdF w n (headV r))
  have hul := u16_less L (by simp at hl; omega)
  have hulb := u16_self L (by simp at hl; omega)
  have H := Lib.hid h
  have HL := Lib.hid hL
  rw [headV_cons] at c0
  obtain ⟨post, hpost⟩ : ∃ post, post = TakePost B g (takeBy (fun n => decide (n.time = s)) (n :: r)) w := ⟨_, rfl⟩
  rw [← hpost]
  have HP := Lib.hid hpost
  clear c1 fg fn h hL hl hpost
  go_enter Try.func49, Try.ntmps49
  go_wp2_with fail
  clear c0 n0 n1 n3 n5 n6
  go_loopg [8, 9] r.length (fun k v8 v9 wr => ∃ a p r', r'.length ≤ k ∧ v8 = .pointer (some ⟨p.blk, 0, none⟩) ∧ v9 = headV r' ∧ Hid (popTimeInv w n r s a p r' wr))
  case atStart => exact ⟨[], n, r, Nat.le_refl _, rfl, rfl, rfl, rfl, by simp [hs]⟩
  case round =>
    obtain ⟨a, p, r', hk, rfl, rfl, hinv⟩ := hrel
    obtain ⟨rfl, e1, e2⟩ := hinv.out
    have E1 := Lib.hid e1
    have E2 := Lib.hid e2
    have HQ := H.out
    rw [e1] at HQ
    cases r' with
    | nil =>
      clear e1 e2 hinv HQ hs
      rw [headV_nil]
      go_wp2_with fail
      rw [HP.out, E1.out, takeBy_none (by simpa using E2.out)]
      exact ⟨⟨_, _, rfl⟩, rfl⟩
    | cons m r2 =>
      obtain ⟨_, _, m0, m1, ⟨_, m2⟩, m3, fm, m5, m6⟩ := ((by have := HQ.seg; rw [show a ++ p :: m :: r2 = (a ++ [p]) ++ m :: r2 by simp] at this; exact this.f) : NdF wr m (headV r2))
      have hseg : m.blk ≠ g ∧ p.blk ≠ m.blk := by
        refine ⟨HQ.notg m (by simp), fun e => ?_⟩
        have hd := HQ.apart
        simp only [List.map_append, List.map_cons] at hd
        have hd2 := (List.nodup_append.1 hd).2.1
        simp [e] at hd2
      obtain ⟨hmg, hpm⟩ := hseg
      have hmp := hpm.symm
      have hgm := hmg.symm
      have hpg : p.blk ≠ g := HQ.notg p (by simp)
      have hgp := hpg.symm
      rw [headV_cons]
      by_cases hm : m.time = s
      · subst hm
        have ht : takeBy (fun x => decide (x.time = m.time)) (a ++ p :: m :: r2) = some (m, a ++ p :: r2) := by
          have := takeBy_hit (p := fun x : Nd => decide (x.time = m.time)) (a := a ++ [p]) (r := r2) (x := m) E2.out (by simp)
          simpa using this
        have hL2 : (a ++ p :: r2).length = L := by
          have h1 := congrArg List.length e1
          have h2 := HL.out
          simp at h1 ⊢
          omega
        have HT := Lib.hid ht
        have HL2 := Lib.hid hL2
        have HQ2 := Lib.hid HQ
        have fm0 := fm 0
        have fm1 := fm 1
        have fm2 := fm 2
        obtain ⟨_, _, _, p1, ⟨_, _⟩, _, fp, _, _⟩ := (HQ.seg.f : NdF wr p (headV (m :: r2)))
        have fp1 := fp 1
        cases r2 with
        | nil =>
          rw [headV_nil] at m1
          rw [headV_cons] at p1
          clear e1 e2 hinv HQ ht hL2 fm fp hs
          go_wp2_with fail
          rw [HP.out, E1.out, HT.out]
          exact ⟨rfl, mid_done HQ2.out HL2.out⟩
        | cons x r3 =>
          obtain ⟨_, _, _, _, ⟨_, x2⟩, _, fx, _, _⟩ := ((by have := HQ.seg; rw [show a ++ p :: m :: x :: r3 = (a ++ [p, m]) ++ x :: r3 by simp] at this; exact this.f) : NdF wr x (headV r3))
          have hx : x.blk ≠ g ∧ x.blk ≠ m.blk ∧ x.blk ≠ p.blk := by
            refine ⟨HQ.notg x (by simp), fun e => ?_, fun e => ?_⟩
            all_goals
              have hd := HQ.apart
              simp only [List.map_append, List.map_cons] at hd
              have hd2 := (List.nodup_append.1 hd).2.1
              simp [e] at hd2
          obtain ⟨hxg, hxm, hxp⟩ := hx
          have hgx := hxg.symm
          have hmx := hxm.symm
          have hpx := hxp.symm
          have fx2 := fx 2
          rw [headV_cons] at m1 p1
          clear e1 e2 hinv HQ ht hL2 fm fp fx hs
          go_wp2_with fail
          rw [HP.out, E1.out, HT.out]
          exact ⟨rfl, mid_done HQ2.out HL2.out⟩
      · clear e1 e2 hinv HQ
        have HM := Lib.hid hm
        go_wp2_with fail
        go_roundg (r2.length)
        case measure => simp at hk; omega
        case rel =>
          refine ⟨a ++ [p], m, r2, Nat.le_refl _, rfl, rfl, rfl, by rw [E1.out]; simp, fun x hx => ?_⟩
          rcases List.mem_append.1 hx with hx | hx
          · exact E2.out x hx
          · simp at hx
            subst hx
            simpa using HM.out

theorem popTime_any (B g s : Nat) (ns : List Nd) (w : World) (h : QAt B w g ns) (hl : ns.length < 60000) :
    Calls Try.prog 49 #[.pointer (some ⟨g, 0, none⟩), .int .u32 (s : Int)] w (TakePost B g (takeBy (fun n => decide (n.time = s)) ns) w) := by
  cases ns with
  | nil =>
    have c0 : w.cell? ⟨g, 0, none⟩ = some (.pointer none) := h.hd.1
    clear h
    go_enter Try.func49, Try.ntmps49
    go_wp2_with fail
    go_ret2
    exact ⟨⟨_, _, rfl⟩, rfl⟩
  | cons n r =>
    by_cases hs : n.time = s
    · subst hs
      have ht : takeBy (fun x => decide (x.time = n.time)) (n :: r) = some (n, r) := by simp [takeBy]
      rw [ht]
      exact popTime_head B g n r w h hl
    · exact popTime_rest B g s n r w h hl hs
end Go.Proofs.Ytlkmmkphpiamcaa
