/-
  The walk of FnMissing. Condition: the slice reads as numbers of 16 bits. By an AI agent.
-/
import Derived.Test.YtlkmmkphpiamcaaV
import Derived.Test.YtlkmmkphpiamcaaQ
namespace Go.Proofs.Ytlkmmkphpiamcaa
open Go.RowKit

theorem specMiss_nil {xs : List Int} {f : Int} : ∀ {a : Nat}, (∀ e : Nat, e < a → f + (e : Int) ∈ xs) → specMiss xs f a = []
  | 0, _ => rfl
  | a + 1, h => by rw [specMiss_succ, specMiss_nil fun e he => h e (by omega), if_pos (h a (by omega))]; rfl
theorem specMiss_add (xs : List Int) (f : Int) (a : Nat) : ∀ b : Nat, specMiss xs f (a + b) = specMiss xs f a ++ specMiss xs (f + (a : Int)) b
  | 0 => by simp [specMiss]
  | b + 1 => by
    rw [← Nat.add_assoc, specMiss_succ, specMiss_succ, specMiss_add xs f a b, List.append_assoc]
    have e : f + ((a + b : Nat) : Int) = f + (a : Int) + (b : Int) := by omega
    rw [e]

theorem miss_law {size F T skip : Nat} {outs : List Int} {L : Log} (hp : IsPow size) (hI : LInv size F T outs L) (hsz : T < F + size) (h32 : size ≤ 32768) (hsk : skip ≤ 100) :
    U16s (missOut L skip) = Low16 (specMiss outs F ((T : Int) - (skip : Int) + 1 - (F : Int)).toNat) := by
  obtain ⟨hdv, hs0⟩ := pow_dvd hp
  obtain ⟨hst, hsize, htop, hbits, ⟨c, hfc, hct, hlast, hall, _⟩, hmem, hrange⟩ := hI
  rcases Nat.lt_or_ge T (c + skip) with h | h
  · have h1 : specMiss outs F ((T : Int) - (skip : Int) + 1 - (F : Int)).toNat = [] := specMiss_nil fun e he => by
      have := hall (F + e) (by omega) (by omega)
      simpa using this
    have h2 : missOut L skip = [] := by rw [missOut, if_neg]; rw [htop, hlast]; omega
    rw [h1, h2]
    rfl
  · have hD : (L.top + (65536 - skip) + (65536 - L.last)) % 65536 = T - skip - c := by rw [htop, hlast]; omega
    have hmo : missOut L skip = missL L (T - skip - c) := by rw [missOut, hD, if_pos (by omega)]
    have hr : ((T : Int) - (skip : Int) + 1 - (F : Int)).toNat = (c + 1 - F) + (T - skip - c) := by omega
    rw [hmo, hr, specMiss_add, specMiss_nil fun e he => by have := hall (F + e) (by omega) (by omega); simpa using this, List.nil_append]
    have key : ∀ d, d ≤ T - skip - c → U16s (missL L d) = Low16 (specMiss outs ((F : Int) + ((c + 1 - F : Nat) : Int)) d) := by
      intro d
      induction d with
      | zero => intro _; rfl
      | succ d ih =>
        intro hd
        have e1 : (F : Int) + ((c + 1 - F : Nat) : Int) + (d : Int) = ((c + 1 + d : Nat) : Int) := by omega
        have e2 : (L.last + 1 + d) % 65536 = (c + 1 + d) % 65536 := by rw [hlast]; omega
        have e3 : L.has ((c + 1 + d) % 65536) = true ↔ ((c + 1 + d : Nat) : Int) ∈ outs := by
          rw [Log.has, hsize, mod_size hdv]
          exact hbits _ (by omega) (by omega)
        rw [missL_succ, specMiss_succ, e1, e2]
        simp only [U16s, Low16, List.map_append] at ih ⊢
        rw [ih (by omega)]
        congr 1
        by_cases hm : ((c + 1 + d : Nat) : Int) ∈ outs
        · rw [if_pos (e3.2 hm), if_pos hm]; rfl
        · rw [if_neg (fun hx => hm (e3.1 hx)), if_neg hm]
          simp
    exact key _ (Nat.le_refl _)

set_option maxRecDepth 1000000 in
set_option maxHeartbeats 1600000 in
theorem fnMissing_any (size skip : Int) (n c : Nat) (A : Option Addr) (ns : List Nat) (w : World)
    (hr : Reads w w.heap.size 1 A n (U16s ns)) (hn : n ≤ 9223372036854775807) (hns : ∀ q ∈ ns, q ≤ 65535) :
    Calls Try.prog 5 #[.int .i64 size, .slice A n c, .int .i64 skip] w (Holds w) := by
  have hlen : ns.length = n := by simpa [U16s] using hr.1
  have HR := Lib.hid hr
  have HNS := Lib.hid hns
  have HLEN := Lib.hid hlen
  clear hr hns hlen
  by_cases hbig : 2147483647 < n
  · go_enter Try.func5, Try.ntmps5
    go_wp2_with fail
    go_ret
    exact ⟨rfl, Below.refl _ _⟩
  have hn2 : n ≤ 2147483647 := by omega
  clear hbig
  have HR2 := HR.out
  rw [u16s_ints] at HR2
  have HRI := Lib.hid HR2
  clear HR2
  have hworks : ∀ w1 : World, Calls Try.prog 11 #[] w1 fun e w' => e = .returned (.bool true) ∧ Below w1.heap.size w1 w' := works_true
  have HW := Lib.hid hworks
  clear hworks
  go_enter Try.func5, Try.ntmps5
  go_wp2_with fail
  refine (line_any n c A (Ints ns) w HRI.out hn2 (fun y hy => by simp only [Ints, List.mem_map] at hy; obtain ⟨q, hq, rfl⟩ := hy; have := HNS.out q hq; omega)).mono ?_
  rintro e w1 ⟨hb1, rfl | ⟨A1, c1, outs, rfl, hr1, hst⟩⟩
  · have HB1 := Lib.hid hb1
    clear hb1
    go_wp2_with fail
    refine (HW.out w1).mono ?_
    rintro e w2 ⟨rfl, hb2⟩
    have HB2 := Lib.hid hb2
    clear hb2
    go_wp2_with fail
    go_ret
    exact ⟨rfl, HB1.out.trans (HB2.out.mono HB1.out.size)⟩
  · have HB1 := Lib.hid hb1
    have HR1 := Lib.hid hr1
    have HST := Lib.hid hst
    have HSM := Lib.hid (line_small HNS.out hst (by have := HLEN.out; omega))
    clear hb1 hr1 hst
    by_cases h200 : 200 < n
    · go_wp2_with fail
      refine (HW.out w1).mono ?_
      rintro e w2 ⟨rfl, hb2⟩
      have HB2 := Lib.hid hb2
      clear hb2
      go_wp2_with fail
      go_ret
      exact ⟨rfl, HB1.out.trans (HB2.out.mono HB1.out.size)⟩
    by_cases hs0 : skip < 0
    · go_wp2_with fail
      refine (HW.out w1).mono ?_
      rintro e w2 ⟨rfl, hb2⟩
      have HB2 := Lib.hid hb2
      clear hb2
      go_wp2_with fail
      go_ret
      exact ⟨rfl, HB1.out.trans (HB2.out.mono HB1.out.size)⟩
    by_cases hs1 : 100 < skip
    · go_wp2_with fail
      refine (HW.out w1).mono ?_
      rintro e w2 ⟨rfl, hb2⟩
      have HB2 := Lib.hid hb2
      clear hb2
      go_wp2_with fail
      go_ret
      exact ⟨rfl, HB1.out.trans (HB2.out.mono HB1.out.size)⟩
    go_wp2_with fail
    refine (power_any size w1).mono ?_
    rintro e w2 ⟨rfl, b, rfl, hb⟩
    cases b with
    | false =>
      clear hb
      go_wp2_with fail
      refine (HW.out w1).mono ?_
      rintro e w2 ⟨rfl, hb2⟩
      have HB2 := Lib.hid hb2
      clear hb2
      go_wp2_with fail
      go_ret
      exact ⟨rfl, HB1.out.trans (HB2.out.mono HB1.out.size)⟩
    | true =>
      obtain ⟨S, rfl, hp, hS1, hS2⟩ := pow_of_power (hb.1 rfl)
      have HP := Lib.hid hp
      have HS2 := Lib.hid hS2
      have hS3 : S ≤ 65535 := by omega
      obtain ⟨K, rfl⟩ : ∃ K : Nat, skip = K := ⟨skip.toNat, by omega⟩
      have hK : K ≤ 100 := by omega
      clear hb hp hS2
      go_wp2_with fail
      refine (smiss_any n c1 A1 outs S K w1 HR1.out hn HSM.out (by omega) (by omega) (by omega)).mono ?_
      rintro e w2 ⟨hb2, rfl | ⟨f, h, A2, c2, hE, rfl, hr2⟩⟩
      · have HB2 := Lib.hid hb2
        clear hb2
        go_wp2_with fail
        refine (HW.out w2).mono ?_
        rintro e w3 ⟨rfl, hb3⟩
        have HB3 := Lib.hid hb3
        clear hb3
        go_wp2_with fail
        go_ret
        exact ⟨rfl, HB1.out.trans ((HB2.out.trans (HB3.out.mono HB2.out.size)).mono HB1.out.size)⟩
      · have HB2 := Lib.hid hb2
        have HE := Lib.hid hE
        obtain ⟨wl, hwl⟩ : ∃ wl, specMiss outs f (h - (K : Int) + 1 - f).toNat = wl := ⟨_, rfl⟩
        rw [hwl] at hr2 ⊢
        have HWL := Lib.hid hwl
        have HR2 := Lib.hid hr2
        clear hb2 hE hwl hr2
        go_wp2_with fail
        refine (missing_impl S n c K A ns w2 hS1 hS3 ((HR.out.below (HB1.out.trans (HB2.out.mono HB1.out.size))).more (Nat.le_trans HB1.out.size HB2.out.size)) hn HNS.out hK).mono ?_
        rintro e w3 ⟨hb3, ⟨_, L, A3, c3, ha, rfl, hr3⟩ | ⟨hp, rfl⟩⟩
        · have hlaw : U16s (missOut L K) = Low16 wl := by
            obtain ⟨F, T, rfl, rfl, hI⟩ := log_law HP.out HS2.out HNS.out HST.out HE.out ha
            have := HE.out.2.2.2
            rw [← HWL.out]
            exact miss_law HP.out hI (by omega) HS2.out hK
          have hll : (missOut L K).length = wl.length := by
            have := congrArg List.length hlaw
            simpa [U16s, Low16] using this
          rw [hll] at hr3 ⊢
          rw [hlaw] at hr3
          have HB3 := Lib.hid hb3
          have HR3 := Lib.hid hr3
          have hwn : wl.length ≤ 9223372036854775807 := by
            have h1 := specMiss_len outs f (h - (K : Int) + 1 - f).toNat
            rw [HWL.out] at h1
            have h2 := HSM.out h HE.out.2.1
            have h3 := HE.out.2.2.1 h HE.out.2.1
            have h4 := HE.out.2.2.2
            omega
          clear hb3 hr3 ha hlaw hll
          go_wp2_with fail
          refine (same_true wl.length c3 c2 w3.heap.size w3.heap.size A3 A2 wl w3 HR3.out ((HR2.out.below HB3.out).more HB3.out.size) hwn).mono ?_
          rintro e w4 ⟨rfl, m, rfl⟩
          go_wp2_with fail
          refine (HW.out _).mono ?_
          rintro e w5 ⟨rfl, hb5⟩
          have HB5 := Lib.hid hb5
          clear hb5
          go_wp2_with fail
          go_ret
          refine ⟨rfl, HB1.out.trans ((HB2.out.trans (((below_drewN HB3.out m).trans (HB5.out.mono (by simpa using HB3.out.size))).mono HB2.out.size)).mono HB1.out.size)⟩
        · exact absurd HP.out hp
end Go.Proofs.Ytlkmmkphpiamcaa
