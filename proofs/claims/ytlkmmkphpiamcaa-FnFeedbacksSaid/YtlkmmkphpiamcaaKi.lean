/-
  The recorder: maybeCullOldPackets. Condition: the recorder lies in its blocks; all numbers within 256. By an AI agent.
-/
import Derived.Test.YtlkmmkphpiamcaaKh
namespace Go.Proofs.Ytlkmmkphpiamcaa
open Go.RowKit

set_option maxHeartbeats 1000000 in
set_option maxRecDepth 100000 in
theorem cull_none (r b e L x : Nat) (t : Int) (S : Value) (i : Bool) (sd md : Int) (cnt held : Nat) (w : World) (hR : Blk w r 154 (recC S b e (restC i L none sd md cnt held))) :
    Calls Try.prog 78 #[.pointer (some ⟨r, 0, none⟩), .int .i64 (x : Int), .int .i64 t] w fun v w' => v = .returned (.tuple #[]) ∧ ∃ n, w' = w.drewN n := by
  have c5 := hR.cell 5
  simp [recC, restC] at c5
  clear hR
  go_enter Try.func78, Try.ntmps78
  go_upto_region 0 with fail
  go_quiet ((go_at_call 84; exact Calls.quiet_of_same (end_any r e _ (by assumption))))
  go_wp2_with fail
  go_end0
  exact ⟨rfl, _, rfl⟩

set_option maxHeartbeats 1000000 in
set_option maxRecDepth 100000 in
theorem cull_stay (r g C b e p s L x : Nat) (t : Int) (F : Nat → Int) (sd md : Int) (cnt held : Nat) (w : World) (hR : RecAt w r g C b e F p s L sd md cnt held) (hs : ¬ (e ≤ s ∧ 500000 ≤ t)) :
    Calls Try.prog 78 #[.pointer (some ⟨r, 0, none⟩), .int .i64 (x : Int), .int .i64 t] w fun v w' => v = .returned (.tuple #[]) ∧ ∃ n, w' = w.drewN n := by
  have c5 := hR.mp.blk.cell 5
  simp [recC, restC] at c5
  have c2 := hR.mp.map.c2
  have p0 := hR.box.cell 0
  simp at p0
  have HE := Lib.hid (end_any r e)
  clear hR
  by_cases h1 : e ≤ s
  · have ht : t < 500000 := by omega
    clear hs
    go_enter Try.func78, Try.ntmps78
    go_upto_region 0 with fail
    go_quiet ((go_at_call 84; exact Calls.quiet_of_same (HE.out _ c2)))
    go_wp2_with fail
    go_end0
    exact ⟨rfl, _, rfl⟩
  · clear hs
    go_enter Try.func78, Try.ntmps78
    go_upto_region 0 with fail
    go_quiet ((go_at_call 84; exact Calls.quiet_of_same (HE.out _ c2)))
    go_wp2_with fail
    go_end0
    exact ⟨rfl, _, rfl⟩

set_option maxHeartbeats 1000000 in
set_option maxRecDepth 100000 in
theorem cull_go (r g C b e p s L x : Nat) (t : Int) (F : Nat → Int) (sd md : Int) (cnt held : Nat) (w : World) (hR : RecAt w r g C b e F p s L sd md cnt held) (h1 : e ≤ s) (ht : 500000 ≤ t) (h2 : e ≤ b + 256) (ht2 : t < 2000000000000) :
    Calls Try.prog 78 #[.pointer (some ⟨r, 0, none⟩), .int .i64 (x : Int), .int .i64 t] w fun v w' => v = .returned (.tuple #[]) ∧
      ∃ b' g' C', b ≤ b' ∧ b' ≤ max b (min x e) ∧ RecAt w' r g' C' b' e F p s L sd md cnt held ∧ (g' = g ∨ w.heap.size ≤ g') ∧ Touch (· = r) w w' := by
  have c5 := hR.mp.blk.cell 5
  simp [recC, restC] at c5
  have c2 := hR.mp.map.c2
  have p0 := hR.box.cell 0
  simp at p0
  have HE := Lib.hid (end_any r e)
  have HR := Lib.hid hR
  clear hR
  go_enter Try.func78, Try.ntmps78
  go_upto_region 0 with fail
  go_quiet ((go_at_call 84; exact Calls.quiet_of_same (HE.out _ c2)))
  go_wp2_with fail
  refine (remove_any r g C b e x _ F _ _ (HR.out.mp.drewN _) h2).mono ?_
  rintro v w' ⟨rfl, b', g', C', hb1, hb2, hm, hg, ht'⟩
  have ht3 := Touch.undrewN ht'
  have hbx := HR.out.box.touch ht3 HR.out.rp.symm
  have hlt := HR.out.box.lt
  have hne := HR.out.ne
  have HF := Lib.hid (show ∃ b' g' C', b ≤ b' ∧ b' ≤ max b (min x e) ∧ RecAt w' r g' C' b' e F p s L sd md cnt held ∧ (g' = g ∨ w.heap.size ≤ g') ∧ Touch (· = r) w w' from ⟨b', g', C', hb1, hb2, ⟨hm, hbx, by rcases hg with rfl | hg; exact hne; intro h; subst h; exact absurd hlt (by simp at hg; omega)⟩, hg, ht3⟩)
  clear hm ht' ht3 hbx hb1 hb2 hg
  go_wp2_with fail
  go_end0
  exact ⟨rfl, HF.out⟩

theorem cull_any (r g C b e p s L x : Nat) (t : Int) (F : Nat → Int) (sd md : Int) (cnt held : Nat) (w : World) (hR : RecAt w r g C b e F p s L sd md cnt held) (h2 : e ≤ b + 256) (ht2 : t < 2000000000000) :
    Calls Try.prog 78 #[.pointer (some ⟨r, 0, none⟩), .int .i64 (x : Int), .int .i64 t] w fun v w' => v = .returned (.tuple #[]) ∧
      ∃ b' g' C', b ≤ b' ∧ b' ≤ max b (min x e) ∧ (¬ (e ≤ s ∧ 500000 ≤ t) → b' = b) ∧ RecAt w' r g' C' b' e F p s L sd md cnt held ∧ (g' = g ∨ w.heap.size ≤ g') ∧ Touch (· = r) w w' := by
  by_cases h : e ≤ s ∧ 500000 ≤ t
  · refine (cull_go r g C b e p s L x t F sd md cnt held w hR h.1 h.2 h2 ht2).mono ?_
    rintro v w' ⟨rfl, b', g', C', h1, h2, h3⟩
    exact ⟨rfl, b', g', C', h1, h2, fun hn => absurd h hn, h3⟩
  · refine (cull_stay r g C b e p s L x t F sd md cnt held w hR h).mono ?_
    rintro v w' ⟨rfl, n, rfl⟩
    exact ⟨rfl, b, g, C, Nat.le_refl _, by omega, fun _ => rfl, hR.drewN n, .inl rfl, (Touch.refl _ w).drewN n⟩
end Go.Proofs.Ytlkmmkphpiamcaa
