/-
  The walk of FnUnwrap. Condition: the slice reads as numbers of 16 bits. By an AI agent.
-/
import Derived.Test.YtlkmmkphpiamcaaD
namespace Go.Proofs.Ytlkmmkphpiamcaa
open Go.RowKit

/-- THE PLAIN LAW: where Steps gives numbers they are the unwrapper's. -/
theorem steps_unwrap {ls outs : List Int} (h : StepsRel ls outs) (hls : ∀ x ∈ ls, 0 ≤ x ∧ x ≤ 65535) : outs = unwrapL ls := by
  have key : ∀ i, i < ls.length → outs.getD i 0 = unwrapAt ls i := by
    intro i
    induction i with
    | zero =>
      intro hi
      rw [((h.2 0 hi).2.1 rfl)]
      rfl
    | succ i ih =>
      intro hi
      obtain ⟨h0, _, h2⟩ := h.2 (i + 1) hi
      obtain ⟨h3, h4⟩ := h2 (by omega)
      simp only [Nat.add_sub_cancel] at h3 h4
      rw [ih (by omega)] at h3 h4
      have hr := unwrapAt_range ls hls i
      show outs.getD (i + 1) 0 = unwrapF (unwrapAt ls i) (ls.getD (i + 1) 0)
      generalize unwrapAt ls i = q at *
      have hx : 0 ≤ ls.getD (i + 1) 0 ∧ ls.getD (i + 1) 0 ≤ 65535 := by
        rw [List.getD, List.getElem?_eq_getElem hi]
        exact hls _ (List.getElem_mem hi)
      generalize ls.getD (i + 1) 0 = x at *
      rw [h3] at h0 ⊢
      unfold unwrapF newer nearD at *
      have e1 : (x - q % 65536) % 65536 = (x - q) % 65536 := by omega
      simp only [e1]
      split <;> simp <;> repeat' split <;> omega
  apply List.ext_getElem
  · rw [h.1]; simp [unwrapL]
  · intro i h1 h2
    have hi : i < ls.length := by rw [← h.1]; exact h1
    have := key i hi
    simp [List.getD, List.getElem?_eq_getElem h1] at this
    simpa [unwrapL] using this

/-- What every law's walk ends in: true, and nothing that was there has turned. -/
def Holds (w : World) (e : Ending) (w' : World) : Prop := e = .returned (.bool true) ∧ Below w.heap.size w w'

set_option maxRecDepth 100000 in
set_option maxHeartbeats 800000 in
theorem fnUnwrap_any (n c : Nat) (A : Option Addr) (ls : List Int) (w : World)
    (hr : Reads w w.heap.size 1 A n (ls.map (Value.int .u16))) (hn : n ≤ 9223372036854775807) (hls : ∀ x ∈ ls, 0 ≤ x ∧ x ≤ 65535) :
    Calls Try.prog 3 #[.slice A n c] w (Holds w) := by
  have HR := Lib.hid hr
  have HLS := Lib.hid hls
  have hlen : ls.length = n := by simpa using hr.1
  have HLEN := Lib.hid hlen
  clear hr hls hlen
  by_cases hbig : 2147483647 < n
  · go_enter Try.func3, Try.ntmps3
    go_wp2_with fail
    go_ret
    exact ⟨rfl, Below.refl _ _⟩
  · have hn2 : n ≤ 2147483647 := by omega
    clear hbig
    go_enter Try.func3, Try.ntmps3
    go_wp2_with fail
    refine (steps_any n c A ls w HR.out hn2 HLS.out).mono ?_
    rintro e w1 ⟨hb1, rfl | ⟨A1, c1, outs, rfl, hr1, hst⟩⟩
    · have HB1 := Lib.hid hb1
      clear hb1
      go_wp2_with fail
      refine (works_true w1).mono ?_
      rintro e w2 ⟨rfl, hb2⟩
      have HB2 := Lib.hid hb2
      clear hb2
      go_wp2_with fail
      go_ret
      exact ⟨rfl, HB1.out.trans (HB2.out.mono HB1.out.size)⟩
    · have HB1 := Lib.hid hb1
      have HR1 := Lib.hid hr1
      have HST := Lib.hid (steps_unwrap hst HLS.out)
      clear hb1 hr1 hst
      by_cases h200 : 200 < n
      · go_wp2_with fail
        refine (works_true w1).mono ?_
        rintro e w2 ⟨rfl, hb2⟩
        have HB2 := Lib.hid hb2
        clear hb2
        go_wp2_with fail
        go_ret
        exact ⟨rfl, HB1.out.trans (HB2.out.mono HB1.out.size)⟩
      · go_wp2_with fail
        refine (unwrap_list n c A ls w1 w.heap.size (HR.out.below HB1.out) HB1.out.size (by omega) HLS.out).mono ?_
        rintro e w2 ⟨A2, c2, rfl, hr2, hb2⟩
        have HR2 := Lib.hid hr2
        have HB2 := Lib.hid hb2
        clear hr2 hb2
        go_wp2_with fail
        go_loopw [32] (fun i wr => ∃ k m : Nat, k ≤ n ∧ i = .int .i64 k ∧ Hid (wr = w2.drewN m)) (fun i _ => n - (intOf i).toNat)
        case atStart => exact ⟨0, 0, by omega, rfl, rfl⟩
        case round =>
          obtain ⟨k, m, hk, rfl, hw⟩ := hrel
          obtain rfl := hw.out
          clear hw
          by_cases hlt : k < n
          · obtain ⟨ad1, u1, rfl, _, hu1, hc1⟩ := (HR1.out.below HB2.out).at1 hlt
            obtain ⟨ad2, u2, rfl, _, hu2, hc2⟩ := HR2.out.at1 hlt
            rw [HST.out] at hu1
            obtain rfl : u2 = u1 := Option.some.inj (hu2.symm.trans hu1)
            obtain ⟨y, rfl⟩ : ∃ y, u2 = .int .i64 y := by
              rw [List.getElem?_map] at hu1
              cases hq : (unwrapL ls)[k]? with
              | none => rw [hq] at hu1; cases hu1
              | some y => rw [hq] at hu1; exact ⟨y, (Option.some.inj hu1).symm⟩
            have hi1 : (k : Int) < (n : Int) := by omega
            clear hu1 hu2
            go_wp2_with fail
            go_quiet (fail)
            go_wp2_with fail
            exact ⟨⟨k + 1, m + nq, by omega, by go_num, rfl⟩, by simp [intOf]; omega⟩
          · go_wp2_with fail
            refine (works_true _).mono ?_
            rintro e w3 ⟨rfl, hb3⟩
            have HB3 := Lib.hid hb3
            clear hb3
            go_wp2_with fail
            go_ret
            exact ⟨rfl, HB1.out.trans (((below_drewN HB2.out m).trans (HB3.out.mono (by simpa using HB2.out.size))).mono HB1.out.size)⟩
end Go.Proofs.Ytlkmmkphpiamcaa
