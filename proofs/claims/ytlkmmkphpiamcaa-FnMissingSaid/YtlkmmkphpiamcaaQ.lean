/-
  The walk of FnHas. Condition: the slices read as numbers of 16 bits. By an AI agent.
-/
import Derived.Test.YtlkmmkphpiamcaaP
namespace Go.Proofs.Ytlkmmkphpiamcaa
open Go.RowKit

theorem u16s_ints (ns : List Nat) : U16s ns = (Ints ns).map (Value.int .u16) := by simp [U16s, Ints]
theorem line_small {ns : List Nat} {outs : List Int} (hns : ∀ q ∈ ns, q ≤ 65535) (h : LineRel (Ints ns) outs) (hn : ns.length ≤ 2147483647) : ∀ x ∈ outs, 0 ≤ x ∧ x ≤ 140737488355328 := by
  intro x hx
  obtain ⟨i, hi, rfl⟩ := List.mem_iff_getElem.1 hx
  have hol : outs.length = ns.length := by simpa [Ints] using h.1
  have hl : (Ints ns).length = ns.length := by simp [Ints]
  have h0 := (h.2 i (by rw [hl]; omega)).1
  have h1 := line_range h (fun y hy => by simp only [Ints, List.mem_map] at hy; obtain ⟨q, hq, rfl⟩ := hy; have := hns q hq; omega) i (by rw [hl]; omega)
  have h2 := topAt_ge outs i i (Nat.le_refl _) hi
  rw [List.getD, List.getElem?_eq_getElem hi] at h0 h2
  simp at h0 h2
  omega

theorem pow_of_power {size : Int} (h : ∃ j, j ≤ 9 ∧ size = 64 * 2 ^ j) : ∃ S : Nat, size = S ∧ IsPow S ∧ 64 ≤ S ∧ S ≤ 32768 := by
  obtain ⟨j, hj, rfl⟩ := h
  have : j = 0 ∨ j = 1 ∨ j = 2 ∨ j = 3 ∨ j = 4 ∨ j = 5 ∨ j = 6 ∨ j = 7 ∨ j = 8 ∨ j = 9 := by omega
  rcases this with rfl | rfl | rfl | rfl | rfl | rfl | rfl | rfl | rfl | rfl
  · exact ⟨64, by decide, ⟨6, by decide, by decide⟩, by decide, by decide⟩
  · exact ⟨128, by decide, ⟨7, by decide, by decide⟩, by decide, by decide⟩
  · exact ⟨256, by decide, ⟨8, by decide, by decide⟩, by decide, by decide⟩
  · exact ⟨512, by decide, ⟨9, by decide, by decide⟩, by decide, by decide⟩
  · exact ⟨1024, by decide, ⟨10, by decide, by decide⟩, by decide, by decide⟩
  · exact ⟨2048, by decide, ⟨11, by decide, by decide⟩, by decide, by decide⟩
  · exact ⟨4096, by decide, ⟨12, by decide, by decide⟩, by decide, by decide⟩
  · exact ⟨8192, by decide, ⟨13, by decide, by decide⟩, by decide, by decide⟩
  · exact ⟨16384, by decide, ⟨14, by decide, by decide⟩, by decide, by decide⟩
  · exact ⟨32768, by decide, ⟨15, by decide, by decide⟩, by decide, by decide⟩

set_option maxRecDepth 1000000 in
set_option maxHeartbeats 1600000 in
theorem fnHas_any (size : Int) (n c m d : Nat) (A Q : Option Addr) (ns qs : List Nat) (w : World)
    (hr : Reads w w.heap.size 1 A n (U16s ns)) (hn : n ≤ 9223372036854775807) (hns : ∀ q ∈ ns, q ≤ 65535)
    (hq : Reads w w.heap.size 1 Q m (U16s qs)) (hm : m ≤ 9223372036854775807) (hqs : ∀ q ∈ qs, q ≤ 65535) :
    Calls Try.prog 4 #[.int .i64 size, .slice A n c, .slice Q m d] w (Holds w) := by
  have hlen : ns.length = n := by simpa [U16s] using hr.1
  have hlq : qs.length = m := by simpa [U16s] using hq.1
  have HR := Lib.hid hr
  have HQ := Lib.hid hq
  have HNS := Lib.hid hns
  have HQS := Lib.hid hqs
  have HLEN := Lib.hid hlen
  have HLQ := Lib.hid hlq
  clear hr hq hns hqs hlen hlq
  by_cases hbig : 2147483647 < n
  · go_enter Try.func4, Try.ntmps4
    go_wp2_with fail
    go_ret
    exact ⟨rfl, Below.refl _ _⟩
  have hn2 : n ≤ 2147483647 := by omega
  clear hbig
  by_cases hbig : 2147483647 < m
  · go_enter Try.func4, Try.ntmps4
    go_wp2_with fail
    go_ret
    exact ⟨rfl, Below.refl _ _⟩
  have hm2 : m ≤ 2147483647 := by omega
  clear hbig
  have HR2 := HR.out
  rw [u16s_ints] at HR2
  have HRI := Lib.hid HR2
  clear HR2
  go_enter Try.func4, Try.ntmps4
  go_wp2_with fail
  refine (line_any n c A (Ints ns) w HRI.out hn2 (fun y hy => by simp only [Ints, List.mem_map] at hy; obtain ⟨q, hq, rfl⟩ := hy; have := HNS.out q hq; omega)).mono ?_
  rintro e w1 ⟨hb1, rfl | ⟨A1, c1, outs, rfl, hr1, hst⟩⟩
  · have HB1 := Lib.hid hb1
    clear hb1
    go_wp2_with fail
    refine (works_true w1).mono ?_
    rintro e w2 ⟨rfl, hb2⟩
    have HB2 := Lib.hid hb2
    clear hb2
    go_wp2_with fail
    go_ret
    exact ⟨rfl, HB1.out.trans (HB2.out.mono HB1.out.size)⟩
  · have HB1 := Lib.hid hb1
    have HR1 := Lib.hid hr1
    have HST := Lib.hid hst
    have HSM := Lib.hid (line_small HNS.out hst (by have := HLEN.out; omega))
    clear hb1 hr1 hst
    by_cases h200 : 200 < n
    · go_wp2_with fail
      refine (works_true w1).mono ?_
      rintro e w2 ⟨rfl, hb2⟩
      have HB2 := Lib.hid hb2
      clear hb2
      go_wp2_with fail
      go_ret
      exact ⟨rfl, HB1.out.trans (HB2.out.mono HB1.out.size)⟩
    by_cases h200q : 200 < m
    · go_wp2_with fail
      refine (works_true w1).mono ?_
      rintro e w2 ⟨rfl, hb2⟩
      have HB2 := Lib.hid hb2
      clear hb2
      go_wp2_with fail
      go_ret
      exact ⟨rfl, HB1.out.trans (HB2.out.mono HB1.out.size)⟩
    go_wp2_with fail
    refine (power_any size w1).mono ?_
    rintro e w2 ⟨rfl, b, rfl, hb⟩
    cases b with
    | false =>
      clear hb
      go_wp2_with fail
      refine (works_true w1).mono ?_
      rintro e w2 ⟨rfl, hb2⟩
      have HB2 := Lib.hid hb2
      clear hb2
      go_wp2_with fail
      go_ret
      exact ⟨rfl, HB1.out.trans (HB2.out.mono HB1.out.size)⟩
    | true =>
      obtain ⟨S, rfl, hp, hS1, hS2⟩ := pow_of_power (hb.1 rfl)
      have HP := Lib.hid hp
      have HS2 := Lib.hid hS2
      have hS3 : S ≤ 65535 := by omega
      clear hb hp hS2
      go_wp2_with fail
      refine (has_any S n c m d A Q ns qs w1 hS1 hS3 ((HR.out.below HB1.out).more HB1.out.size) hn HNS.out ((HQ.out.below HB1.out).more HB1.out.size) (by omega) HQS.out).mono ?_
      rintro e w2 ⟨hb2, ⟨_, L, A2, c2, ha, rfl, hr2⟩ | ⟨hp, rfl⟩⟩
      · rw [HLQ.out] at hr2
        have hl2 := HLQ.out
        have HB2 := Lib.hid hb2
        have HR2 := Lib.hid hr2
        have HA := Lib.hid ha
        rw [hl2]
        clear hb2 hr2 ha hl2
        go_wp2_with fail
        go_loopw [64] (fun i wr => ∃ k mm : Nat, k ≤ m ∧ i = .int .i64 k ∧ Hid (wr = w2.drewN mm)) (fun i _ => m - (intOf i).toNat)
        case atStart => exact ⟨0, 0, by omega, rfl, rfl⟩
        case round =>
          obtain ⟨k, mm, hk, rfl, hw⟩ := hrel
          obtain rfl := hw.out
          clear hw
          by_cases hlt : k < m
          · obtain ⟨ad1, q, rfl, _, hqk, hq1, hc1⟩ := u16s_at ((HQ.out.below HB1.out).below (HB2.out.mono HB1.out.size)) HQS.out hlt
            obtain ⟨ad2, u2, rfl, _, hu2, hc2⟩ := HR2.out.at1 hlt
            rw [List.getElem?_map, hqk] at hu2
            simp only [Option.map_some, Option.some.injEq] at hu2
            subst hu2
            have hi1 : (k : Int) < (m : Int) := by omega
            have HQK := Lib.hid hqk
            clear hqk
            go_wp2_with fail
            refine (shas_any n c1 w1.heap.size A1 outs S q (w2.drewN mm) (HR1.out.below (below_drewN HB2.out mm)) hn HSM.out).mono ?_
            rintro e w3 ⟨⟨m3, rfl⟩, has, told, rfl, htold⟩
            cases told with
            | false =>
              clear htold
              go_wp2_with fail
              exact ⟨⟨k + 1, _, by omega, by go_num, rfl⟩, by simp [intOf]; omega⟩
            | true =>
              obtain ⟨f, h, hE, hnd, hlo, hhi, hhas⟩ := htold rfl
              have hg : L.gets q = has := by
                obtain ⟨F, T, rfl, rfl, hI⟩ := log_law HP.out HS2.out HNS.out HST.out hE HA.out
                rw [gets_law HP.out hI (by have := hE.2.2.2; omega) HS2.out hq1 hlo hhi, hhas]
              rw [hg] at hc2
              clear htold hE hnd hlo hhi hhas hg
              go_wp2_with fail
              exact ⟨⟨k + 1, _, by omega, by go_num, rfl⟩, by simp [intOf]; omega⟩
          · go_wp2_with fail
            refine (works_true _).mono ?_
            rintro e w3 ⟨rfl, hb3⟩
            have HB3 := Lib.hid hb3
            clear hb3
            go_wp2_with fail
            go_ret
            exact ⟨rfl, HB1.out.trans (((below_drewN HB2.out mm).trans (HB3.out.mono (by simpa using HB2.out.size))).mono HB1.out.size)⟩
      · exact absurd HP.out hp
end Go.Proofs.Ytlkmmkphpiamcaa
