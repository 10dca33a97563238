/-
  The map of arrival times: its first reallocate, adjustToSize. Condition: the map lies at the head of its recorder's block. By an AI agent.
-/
import Derived.Test.YtlkmmkphpiamcaaKd
namespace Go.Proofs.Ytlkmmkphpiamcaa
open Go.RowKit

theorem realloc_first (r N : Nat) (f : Nat → Int) (rest : List Value) (w : World) (hR : Blk w r 154 (recC (.slice none 0 0) 0 0 rest)) (hN : Cap N) :
    Calls Try.prog 95 #[.pointer (some ⟨r, 0, none⟩), .int .i64 (N : Int)] w fun x w' => x = .returned (.tuple #[]) ∧ Mp w' r w.heap.size N 0 0 f rest ∧ Touch (· = r) w w' := by
  obtain ⟨i0, hi0, hz0, hz1, hz2⟩ := info_parts info_i64K
  have hN' : N ≤ 4096 := by unfold Cap at hN; omega
  have hmk := make_i64 (P := Try.prog) (t := 23) (e := 2) Try.underlying23 hi0 hz0 hz1 hz2 N hN' w
  have hbn := Blk.new w 2 (zeros64 N)
  have hta := (Touch.refl (· = r) w).alloc (.cells (zeros64 N) 2)
  have hR1 := hR.alloc (.cells (zeros64 N) 2)
  have hrn : r ≠ w.heap.size := by have := hR.lt; omega
  generalize hW : w.alloc (.cells (zeros64 N) 2) = W at *
  generalize hq : w.heap.size = q at *
  have c0 := hR1.cell 0
  have c1 := hR1.cell 1
  have c2 := hR1.cell 2
  have f0 := hR1.free 0
  have hp := hR1.put 0 (rowV q N)
  have hsv : (recC (.slice none 0 0) 0 0 rest).setIfInBounds 0 (rowV q N) = recC (rowV q N) 0 0 rest := by simp [recC]
  rw [hsv] at hp
  simp [recC] at c0 c1 c2
  have hfin : Mp (W.setCell ⟨r, 0, none⟩ (rowV q N)) r q N 0 0 f rest ∧ Touch (· = r) w (W.setCell ⟨r, 0, none⟩ (rowV q N)) :=
    ⟨⟨hN, hp, Nat.le_refl _, by omega, by omega, _, hbn.far (p := ⟨r, 0, none⟩) (fun h => hrn h.symm) _, zeros_size N, fun s h1 h2 => by omega⟩, hta.setCell (p := ⟨r, 0, none⟩) (fun _ => rfl) _⟩
  have HF := Lib.hid hfin
  clear hfin hN hbn hta hR hR1 hi0 hz0 hz1 hz2 hN' hp hsv hW hq
  go_enter Try.func95, Try.ntmps95
  go_wp2_with fail
  go_loop [5] (fun v => v = .int .i64 0) (fun _ => 0)
  case atStart => rfl
  case round =>
    subst hrel
    go_wp2_with fail
    go_end0
    exact ⟨rfl, HF.out⟩

set_option maxRecDepth 100000 in
theorem adjust_any (r g C b e n : Nat) (f : Nat → Int) (rest : List Value) (w : World) (hM : Mp w r g C b e f rest) (hn : n ≤ 256) (hbe : e ≤ b + n) :
    Calls Try.prog 97 #[.pointer (some ⟨r, 0, none⟩), .int .i64 (n : Int)] w fun x w' => x = .returned (.tuple #[]) ∧ ∃ g' C', n ≤ C' ∧ Mp w' r g' C' b e f rest ∧ (g' = g ∨ w.heap.size ≤ g') ∧ Touch (· = r) w w' := by
  have hcap := hM.cap
  rcases hcap with rfl | rfl
  · have c0 := hM.map.c0
    by_cases h128 : n ≤ 128
    · have HM := Lib.hid hM
      clear hM
      go_enter Try.func97, Try.ntmps97
      go_wp2_with (go_at_call 109; refine (cap_any r g 128 _ c0).mono ?_; rintro e w' ⟨rfl, hw⟩; obtain rfl := hw.symm; clear hw)
      all_goals go_end0
      all_goals exact ⟨rfl, g, 128, h128, HM.out, .inl rfl, Touch.refl _ _⟩
    · have HM := Lib.hid hM
      clear hM
      go_enter Try.func97, Try.ntmps97
      go_wp2_with (go_at_call 109; refine (cap_any r g 128 _ c0).mono ?_; rintro e w' ⟨rfl, hw⟩; obtain rfl := hw.symm; clear hw)
      go_loop [4] (fun v => v = .int .i64 128 ∨ v = .int .i64 256) (fun v => 256 - (intOf v).toNat)
      case atStart => exact .inl rfl
      case round =>
        rcases hrel with rfl | rfl
        · go_wp2_with fail
          exact ⟨.inr rfl, by simp [intOf]⟩
        · go_wp2_with fail
          refine (realloc_any r g 128 b e 256 f rest _ HM.out (.inr rfl) (by omega)).mono ?_
          rintro x w1 ⟨rfl, hm1, ht1⟩
          obtain ⟨q, hq⟩ : ∃ q, w.heap.size = q := ⟨_, rfl⟩
          rw [hq] at hm1
          have HQ := Lib.hid hq
          clear hq
          have d0 := hm1.map.c0
          have HM1 := Lib.hid hm1
          have HT1 := Lib.hid ht1
          clear hm1 ht1
          go_wp2_with (go_at_call 109; refine (cap_any r q 256 _ d0).mono ?_; rintro e w' ⟨rfl, hw⟩; obtain rfl := hw.symm; clear hw)
          go_end0
          exact ⟨rfl, q, 256, hn, HM1.out, .inr (Nat.le_of_eq HQ.out), HT1.out⟩
  · have c0 := hM.map.c0
    by_cases h32 : n ≤ 32
    · have HM := Lib.hid hM
      clear hM
      go_enter Try.func97, Try.ntmps97
      go_wp2_with (go_at_call 109; refine (cap_any r g 256 _ c0).mono ?_; rintro e w' ⟨rfl, hw⟩; obtain rfl := hw.symm; clear hw)
      go_loop [5] (fun v => v = .int .i64 128 ∨ v = .int .i64 256) (fun v => (intOf v).toNat)
      case atStart => exact .inr rfl
      case round =>
        rcases hrel with rfl | rfl
        · go_wp2_with fail
          refine (realloc_any r g 256 b e 128 f rest _ HM.out (.inl rfl) (by omega)).mono ?_
          rintro x w1 ⟨rfl, hm1, ht1⟩
          have HM1 := Lib.hid hm1
          have HT1 := Lib.hid ht1
          clear hm1 ht1
          go_wp2_with fail
          go_end0
          exact ⟨rfl, _, 128, by omega, HM1.out, .inr (Nat.le_refl _), HT1.out⟩
        · go_wp2_with fail
          exact ⟨.inl rfl, by simp [intOf]⟩
    by_cases h63 : n ≤ 63
    · have HM := Lib.hid hM
      clear hM
      go_enter Try.func97, Try.ntmps97
      go_wp2_with (go_at_call 109; refine (cap_any r g 256 _ c0).mono ?_; rintro e w' ⟨rfl, hw⟩; obtain rfl := hw.symm; clear hw)
      go_loop [5] (fun v => v = .int .i64 128 ∨ v = .int .i64 256) (fun v => (intOf v).toNat)
      case atStart => exact .inr rfl
      case round =>
        rcases hrel with rfl | rfl
        · go_wp2_with fail
          refine (realloc_any r g 256 b e 128 f rest _ HM.out (.inl rfl) (by omega)).mono ?_
          rintro x w1 ⟨rfl, hm1, ht1⟩
          have HM1 := Lib.hid hm1
          have HT1 := Lib.hid ht1
          clear hm1 ht1
          go_wp2_with fail
          go_end0
          exact ⟨rfl, _, 128, by omega, HM1.out, .inr (Nat.le_refl _), HT1.out⟩
        · go_wp2_with fail
          exact ⟨.inl rfl, by simp [intOf]⟩
    · have HM := Lib.hid hM
      clear hM
      go_enter Try.func97, Try.ntmps97
      go_wp2_with (go_at_call 109; refine (cap_any r g 256 _ c0).mono ?_; rintro e w' ⟨rfl, hw⟩; obtain rfl := hw.symm; clear hw)
      go_end0
      exact ⟨rfl, g, 256, hn, HM.out, .inl rfl, Touch.refl _ _⟩
end Go.Proofs.Ytlkmmkphpiamcaa
