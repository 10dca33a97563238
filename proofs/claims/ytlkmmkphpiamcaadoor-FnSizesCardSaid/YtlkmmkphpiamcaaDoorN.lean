/-
  The walk of FnSizes. Condition: the error lies where the variable lies. By an AI agent.
-/
import Derived.Test.YtlkmmkphpiamcaaDoorL
import Derived.Test.YtlkmmkphpiamcaaDoorK
namespace Go.Proofs.YtlkmmkphpiamcaaDoor
open Go.RowKit

theorem power_iff {S : Nat} (h : S = 0 ∨ 64 ≤ S) : (∃ j, j ≤ 9 ∧ (S : Int) = 64 * 2 ^ j) ↔ IsPow S := by
  constructor
  · intro h
    obtain ⟨S', h1, h2, _⟩ := pow_of_power h
    have : S = S' := by omega
    rwa [this]
  · rintro ⟨i, hi, rfl⟩
    have h6 : 6 ≤ i := by
      rcases h with h | h
      · have : 0 < 2 ^ i := Nat.pos_of_ne_zero (by simp)
        omega
      · rcases Nat.lt_or_ge i 6 with h1 | h1
        · have : 2 ^ i ≤ 2 ^ 5 := Nat.pow_le_pow_right (by omega) (by omega)
          omega
        · exact h1
    refine ⟨i - 6, by omega, ?_⟩
    have : 2 ^ i = 64 * 2 ^ (i - 6) := by
      have e : i = 6 + (i - 6) := by omega
      conv => lhs; rw [e, Nat.pow_add]
    have h2 : ((2 ^ i : Nat) : Int) = ((64 * 2 ^ (i - 6) : Nat) : Int) := by rw [← this]
    rw [h2]
    simp

theorem powerB (S : Nat) (h : S = 0 ∨ 64 ≤ S) (b : Bool) (hb : IsPow S ↔ b = true) (w : World) : Calls Tryd.prog 6 #[.int .i64 S] w fun e w' => e = .returned (.bool b) ∧ w = w' := by
  refine (power_any S w).mono ?_
  rintro e w' ⟨rfl, b', rfl, hb'⟩
  rw [power_iff h, hb] at hb'
  refine ⟨?_, rfl⟩
  cases b <;> cases b' <;> simp_all

theorem missB (S : Nat) (h : S = 0 ∨ 64 ≤ S) (h1 : S ≤ 65535) (b : Bool) (hb : IsPow S ↔ b = true) (w : World) (g : Nat) (hg : Blk w g 32 #[.int .u16 1]) :
    Calls Tryd.prog 11 #[.int .i64 S, .slice (some ⟨g, 0, none⟩) 1 1, .int .i64 0] w fun e w' => (∃ v, e = .returned (.tuple #[v, .bool b])) ∧ Below w.heap.size w w' := by
  refine (missing_impl S 1 1 0 (some ⟨g, 0, none⟩) [1] w ?_ h1 ?_ (by omega) (by simp) (by omega)).mono ?_
  · rintro ⟨i, hi, rfl⟩
    have : 0 < 2 ^ i := Nat.pos_of_ne_zero (by simp)
    omega
  · simpa [U16s] using reads_block hg 1 1 rfl
  · rintro e w' ⟨hbw, ⟨hp, L, A, c, _, rfl, _⟩ | ⟨hp, rfl⟩⟩
    · rw [hb] at hp
      subst hp
      exact ⟨⟨_, rfl⟩, hbw⟩
    · rw [hb] at hp
      have : b = false := by simpa using hp
      subst this
      exact ⟨⟨_, rfl⟩, hbw⟩

theorem retB (S : Nat) (h : S = 0 ∨ 64 ≤ S) (h1 : S ≤ 65535) (b : Bool) (hb : IsPow S ↔ b = true) (w : World) (hE : ErrAt w) (g k : Nat) (hg : Blk w g 32 #[.int .u16 1]) (hk : Blk w k 32 #[.int .u16 1]) :
    Calls Tryd.prog 9 #[.int .i64 S, .slice (some ⟨g, 0, none⟩) 1 1, .slice (some ⟨k, 0, none⟩) 1 1] w fun e w' => (∃ v, e = .returned (.tuple #[v, .bool b])) ∧ Below w.heap.size w w' := by
  refine (retained_impl S 1 1 1 1 (some ⟨g, 0, none⟩) (some ⟨k, 0, none⟩) [1] [1] w hE ?_ h1 ?_ (by omega) (by simp) ?_ (by omega) (by simp)).mono ?_
  · rintro ⟨i, hi, rfl⟩
    have : 0 < 2 ^ i := Nat.pos_of_ne_zero (by simp)
    omega
  · simpa [U16s] using reads_block hg 1 1 rfl
  · simpa [U16s] using reads_block hk 1 1 rfl
  · rintro e w' ⟨hbw, ⟨hp, L, A, c, _, rfl, _⟩ | ⟨hp, rfl⟩⟩
    · rw [hb] at hp
      subst hp
      exact ⟨⟨_, rfl⟩, hbw⟩
    · rw [hb] at hp
      have : b = false := by simpa using hp
      subst this
      exact ⟨⟨_, rfl⟩, hbw⟩

set_option maxRecDepth 1000000 in
set_option maxHeartbeats 1600000 in
theorem fnSizes_any (size : Int) (w : World) (hE : ErrAt w) : Calls Tryd.prog 4 #[.int .i64 size] w (Holds w) := by
  have HE := Lib.hid hE
  clear hE
  by_cases hno : size < 0 ∨ 65535 < size ∨ (size < 64 ∧ 0 < size)
  · rcases hno with h | h | ⟨h, h'⟩
    all_goals
      go_enter Tryd.func4, Tryd.ntmps4
      go_wp2_with fail
      refine (works_true w).mono ?_
      rintro e w2 ⟨rfl, hb2⟩
      have HB2 := Lib.hid hb2
      clear hb2
      go_wp2_with fail
      go_ret
      exact ⟨rfl, HB2.out⟩
  · obtain ⟨S, rfl⟩ : ∃ S : Nat, size = S := ⟨size.toNat, by omega⟩
    have hS : S = 0 ∨ 64 ≤ S := by omega
    have hS1 : S ≤ 65535 := by omega
    obtain ⟨b, hb⟩ : ∃ b : Bool, IsPow S ↔ b = true := by
      by_cases h : IsPow S
      · exact ⟨true, by simp [h]⟩
      · exact ⟨false, by simp [h]⟩
    have HB := Lib.hid hb
    have HS := Lib.hid hS
    clear hb
    rcases hS with hz | hz
    · have hz1 : (S : Int) < 64 := by omega
      have hz2 : ¬ (0 : Int) < (S : Int) := by omega
      clear hno hz
      go_enter Tryd.func4, Tryd.ntmps4
      go_wp2_with fail
      refine (missB S HS.out hS1 b HB.out _ w.heap.size (Blk.mk' rfl)).mono ?_
      rintro e w1 ⟨⟨v1, rfl⟩, hb1⟩
      have HB1 := Lib.hid (((Below.refl w.heap.size w).alloc (Nat.le_refl _) _).trans (hb1.mono (by simp)))
      clear hb1
      go_wp2_with fail
      refine (retB S HS.out hS1 b HB.out _ ((HE.out.below HB1.out).below (((Below.refl w1.heap.size w1).alloc (Nat.le_refl _) _).alloc (by simp) _)) w1.heap.size (w1.heap.size + 1) ((Blk.mk' rfl).alloc _) (Blk.mk' (by simp))).mono ?_
      rintro e w2 ⟨⟨v2, rfl⟩, hb2⟩
      have HB2 := Lib.hid ((((HB1.out).alloc HB1.out.size _).alloc (by have := HB1.out.size; simp; omega) _).trans (hb2.mono (by have := HB1.out.size; simp; omega)))
      clear hb2
      have hbb : (b == b) = true := by simp
      go_wp2_with (first
        | (go_at_call 6; refine (powerB S HS.out b HB.out _).mono ?_; rintro e w' ⟨rfl, rfl⟩)
        | (go_at_call 8; refine (works_true _).mono ?_; rintro e w3 ⟨rfl, hb3⟩; have HB3 := Lib.hid hb3; clear hb3))
      go_ret
      exact ⟨rfl, HB2.out.trans (HB3.out.mono HB2.out.size)⟩
    · have hz1 : ¬ (S : Int) < 64 := by omega
      clear hno
      go_enter Tryd.func4, Tryd.ntmps4
      go_wp2_with fail
      refine (missB S HS.out hS1 b HB.out _ w.heap.size (Blk.mk' rfl)).mono ?_
      rintro e w1 ⟨⟨v1, rfl⟩, hb1⟩
      have HB1 := Lib.hid (((Below.refl w.heap.size w).alloc (Nat.le_refl _) _).trans (hb1.mono (by simp)))
      clear hb1
      go_wp2_with fail
      refine (retB S HS.out hS1 b HB.out _ ((HE.out.below HB1.out).below (((Below.refl w1.heap.size w1).alloc (Nat.le_refl _) _).alloc (by simp) _)) w1.heap.size (w1.heap.size + 1) ((Blk.mk' rfl).alloc _) (Blk.mk' (by simp))).mono ?_
      rintro e w2 ⟨⟨v2, rfl⟩, hb2⟩
      have HB2 := Lib.hid ((((HB1.out).alloc HB1.out.size _).alloc (by have := HB1.out.size; simp; omega) _).trans (hb2.mono (by have := HB1.out.size; simp; omega)))
      clear hb2
      have hbb : (b == b) = true := by simp
      go_wp2_with (first
        | (go_at_call 6; refine (powerB S HS.out b HB.out _).mono ?_; rintro e w' ⟨rfl, rfl⟩)
        | (go_at_call 8; refine (works_true _).mono ?_; rintro e w3 ⟨rfl, hb3⟩; have HB3 := Lib.hid hb3; clear hb3))
      go_ret
      exact ⟨rfl, HB2.out.trans (HB3.out.mono HB2.out.size)⟩
end Go.Proofs.YtlkmmkphpiamcaaDoor
