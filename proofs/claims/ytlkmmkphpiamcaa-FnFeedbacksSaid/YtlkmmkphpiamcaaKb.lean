/-
  The map of arrival times: HasReceived, FindNextAtOrAfter, setNotReceived. Condition: the map lies in its two blocks. By an AI agent.
-/
import Derived.Test.YtlkmmkphpiamcaaKa
import Derived.OwnWalk
namespace Go.Proofs.Ytlkmmkphpiamcaa
open Go.RowKit

theorem has_any (r g C b e s : Nat) (f : Nat → Int) (w : World) (hM : MapAt w r g C b e f) :
    Calls Try.prog 80 #[.pointer (some ⟨r, 0, none⟩), .int .i64 (s : Int)] w fun x w' => x = .returned (.bool (decide (0 ≤ arr b e f s))) ∧ ∃ n, w' = w.drewN n := by
  have HM := Lib.hid hM
  clear hM
  generalize hv : arr b e f s = v
  have HV := Lib.hid hv
  clear hv
  go_enter Try.func80, Try.ntmps80
  go_wp2_with fail
  refine (get_any r g C b e s f w HM.out).mono ?_
  rintro x w' ⟨rfl, n, rfl⟩
  rw [HV.out]
  by_cases h : 0 ≤ v
  · go_wp2_with fail
    go_ret
    exact ⟨by simp [h], n, rfl⟩
  · go_wp2_with fail
    go_ret
    exact ⟨by simp, n, rfl⟩

/-- What FindNextAtOrAfter answers, from c on. -/
def FindRel (c e : Nat) (f : Nat → Int) (x : Value) : Prop :=
  (∃ q, c ≤ q ∧ q < e ∧ 0 ≤ f q ∧ (∀ i, c ≤ i → i < q → f i < 0) ∧ x = .tuple #[.int .i64 (q : Int), .int .i64 (f q), .bool true]) ∨
  ((∀ i, c ≤ i → i < e → f i < 0) ∧ x = .tuple #[.int .i64 (-1), .int .i64 (-1), .bool false])

theorem find_next_any (r g C b e s : Nat) (f : Nat → Int) (w : World) (hM : MapAt w r g C b e f) :
    Calls Try.prog 100 #[.pointer (some ⟨r, 0, none⟩), .int .i64 (s : Int)] w fun x w' => ∃ u, x = .returned u ∧ FindRel (clamp b e s) e f u ∧ ∃ n, w' = w.drewN n := by
  have c1 := hM.c1
  have c2 := hM.c2
  have hbe := hM.be
  have hsm := hM.small
  have hcb : b ≤ clamp b e s ∧ clamp b e s ≤ e := by unfold clamp; split <;> (try split) <;> omega
  have HM := Lib.hid hM
  have HCL := Lib.hid (clamp_any r b e s)
  generalize hc : clamp b e s = c at *
  clear hM hc
  go_enter Try.func100, Try.ntmps100
  go_wp2_with (go_at_call 99; refine (HCL.out _ c1 c2).mono ?_; rintro e w' ⟨rfl, hw⟩; obtain rfl := hw.symm; clear hw)
  go_loopw [4, 5, 6, 7] (fun v4 v5 v6 v wr => ∃ k m : Nat, v4 = .int .i64 0 ∧ v5 = .int .i64 0 ∧ v6 = .bool false ∧ v = .int .i64 k ∧ c ≤ k ∧ k ≤ e ∧ Hid (wr = w.drewN m) ∧ Hid (∀ i, c ≤ i → i < k → f i < 0)) (fun _ _ _ v _ => e - (intOf v).toNat)
  case atStart => exact ⟨c, 0, rfl, rfl, rfl, rfl, by omega, hcb.2, rfl, fun i h1 h2 => by omega⟩
  case round =>
    obtain ⟨k, m, rfl, rfl, rfl, rfl, hck, hke, hw, hd⟩ := hrel
    obtain rfl := hw.out
    clear hw
    by_cases hlt : k < e
    · have ha : arr b e f k = f k := if_pos (by omega)
      obtain ⟨v, hv⟩ : ∃ v, f k = v := ⟨_, rfl⟩
      rw [hv] at ha
      have HV := Lib.hid hv
      have HA := Lib.hid ha
      clear ha hv
      have hkw : wrap64 ((k : Int) + 1) = ((k + 1 : Nat) : Int) := by unfold wrap64; omega
      by_cases h0 : 0 ≤ v
      · go_wp2_with fail
        refine (get_any r g C b e k f _ (HM.out.drewN m)).mono ?_
        rintro x w' ⟨rfl, n, rfl⟩
        rw [HA.out]
        go_wp2_with fail
        go_ret3
        exact ⟨_, rfl, .inl ⟨k, hck, hlt, by rw [HV.out]; exact h0, hd.out, by rw [HV.out]; rfl⟩, m + n, rfl⟩
      · go_wp2_with fail
        refine (get_any r g C b e k f _ (HM.out.drewN m)).mono ?_
        rintro x w' ⟨rfl, n, rfl⟩
        rw [HA.out]
        go_wp2_with fail
        refine ⟨⟨k + 1, m + n, rfl, rfl, rfl, by go_num, by omega, by omega, rfl, ?_⟩, by simp [intOf]; omega⟩
        intro i h1 h2
        rcases Nat.lt_or_ge i k with h3 | h3
        · exact hd.out i h1 h3
        · obtain rfl : i = k := by omega
          rw [HV.out]
          omega
    · go_wp2_with fail
      go_ret3
      obtain rfl : k = e := by omega
      exact ⟨_, rfl, .inr ⟨hd.out, rfl⟩, m, rfl⟩
end Go.Proofs.Ytlkmmkphpiamcaa
