/-
  The walk of FnRetained. Condition: the slices read as numbers of 16 bits; the error lies where the variable lies. By an AI agent.
-/
import Derived.Test.YtlkmmkphpiamcaaDoorL
import Derived.Test.YtlkmmkphpiamcaaDoorK
namespace Go.Proofs.YtlkmmkphpiamcaaDoor
open Go.RowKit

theorem own_cap {w : World} {base : Nat} {e : TypeId} {size : Nat} {v : Value} {n : Nat} {xs : List Value} (h : w.ownsRow base e size v n xs) : ∃ A c, v = .slice A n c ∧ n ≤ c := by
  rcases h.2 with ⟨h1, h2⟩ | ⟨g, cap, cur, hv, _, _, hc, _⟩
  · exact ⟨none, 0, by rw [h1, h2], by omega⟩
  · exact ⟨_, _, hv, hc⟩

def LinePost2 (ls : List Int) (n : Nat) (w : World) (e : Ending) (w' : World) : Prop :=
  Below w.heap.size w w' ∧ (e = .returned (.tuple #[.slice none 0 0, .bool false]) ∨
    ∃ A c outs, e = .returned (.tuple #[.slice A n c, .bool true]) ∧ n ≤ c ∧ Reads w' w'.heap.size 1 A n (outs.map (Value.int .i64)) ∧ LineRel ls outs)

set_option maxRecDepth 100000 in
set_option maxHeartbeats 800000 in
theorem line_any2 (n c : Nat) (A : Option Addr) (ls : List Int) (w : World)
    (hr : Reads w w.heap.size 1 A n (ls.map (Value.int .u16))) (hn : n ≤ 2147483647) (hls : ∀ x ∈ ls, 0 ≤ x ∧ x ≤ 65535) :
    Calls Tryd.prog 5 #[.slice A n c] w (LinePost2 ls n w) := by
  obtain ⟨i0, hi0, hz0, hz1, hz2⟩ := info_parts info_i64
  have hlen : ls.length = n := by simpa using hr.1
  have HR := Lib.hid hr
  have HLS := Lib.hid hls
  have HLEN := Lib.hid hlen
  clear hr hls hlen
  go_enter Tryd.func5, Tryd.ntmps5
  go_wp2_with fail
  go_loopw [4, 5, 12] (fun v v5 i wr => ∃ (k : Nat) (h : Int), k ≤ n ∧ i = .int .i64 k ∧ v5 = .int .i64 h ∧ Hid (LnInv ls w k v h wr)) (fun _ _ i _ => n - (intOf i).toNat)
  case atStart => exact ⟨0, 0, by omega, rfl, rfl, ⟨[], World.ownsRow_nil _ _ _ _, ⟨rfl, fun i hi => by simp at hi⟩, Below.refl _ _, rfl⟩⟩
  case round =>
    obtain ⟨k, h, hk, rfl, rfl, hinv⟩ := hrel
    by_cases hlt : k < n
    · obtain ⟨outs, hown, hst, hb, hh⟩ := hinv.out
      obtain ⟨ad, u, rfl, hab, hu1, hc⟩ := (HR.out.below hb).at1 hlt
      obtain ⟨x, rfl, hx, x0, x1⟩ : ∃ x, u = .int .u16 x ∧ x = ls.getD k 0 ∧ 0 ≤ x ∧ x ≤ 65535 := by
        have hl := HLEN.out
        rw [List.getElem?_map, List.getElem?_eq_getElem (by omega)] at hu1
        simp only [Option.map_some, Option.some.injEq] at hu1
        refine ⟨ls[k], hu1.symm, by simp [List.getD, List.getElem?_eq_getElem (show k < ls.length by omega)], ?_⟩
        exact HLS.out _ (List.getElem_mem _)
      have hlk : k < ls.length := by have := HLEN.out; omega
      have hhr : 0 ≤ h ∧ h ≤ 140737488355328 := by
        rw [hh]
        split
        · omega
        · have := line_range hst (fun x hx => HLS.out x (List.mem_of_mem_take hx)) (k - 1) (by rw [List.length_take]; omega)
          omega
      obtain ⟨q0, q2⟩ := hhr
      have HX := Lib.hid hx
      have HST := Lib.hid hst
      have HOWN := Lib.hid hown
      have HB := Lib.hid hb
      have HH := Lib.hid hh
      have HB0 := hb.size
      clear hx hst hown hb hu1 hinv hh
      by_cases hk0 : k = 0
      · have h2 : 0 < k → x = h + nearD h (ls.getD k 0) ∧ nearD h (ls.getD k 0) ≠ -32768 := fun h => by omega
        have H2 := Lib.hid h2
        have H3 : Hid (x = if k = 0 ∨ h < x then x else h) := by show x = _; rw [if_pos (.inl hk0)]
        have hk0' : k ≤ 0 := by omega
        have hk1 : ((k : Int) == 0) = true := by simp; omega
        clear h2 hk0
        go_wp2_with (at_builtin; refine wpList_append_lies _ rfl _ _ _ rfl w.heap.size 2 i0 _ 1 8 Tryd.underlying23 hi0 hz0 hz1 hz2 rfl (by omega) u4 k _ rfl (HOWN.out.alloc _) ⟨wr.heap.size, 0, none⟩ 1 1 [.int .i64 (x)] rfl rfl (World.news_of_block (cs := #[.int .i64 (x)]) (t := 2) (fr := (0, 0)) (heap_alloc_new wr _)) (by simp [Value.oneCell']) (by omega) (by simp only [maxLen]; omega) (by omega) (by simp; omega) (wr.heap.size + 1) (by simp) ?_; intro gg cap w1 hown1 hgrow hat hlt1)
        exact ⟨⟨k + 1, x, by omega, by go_num, rfl, lninv_step hlk HST.out HH.out H3.out x0 (fun _ => HX.out) H2.out HOWN.out HB.out hown1 hgrow⟩, by simp [intOf]; omega⟩
      · have hk0' : 0 < k := by omega
        have hk1 : ((k : Int) == 0) = false := by simp; omega
        have hnr := nearD_range h x
        have HK0 := Lib.hid hk0
        clear hk0
        by_cases hnd : nearD h x = -32768
        · have hne : (nearD h x != -32768) = false := by simp [hnd]
          clear hnd hnr
          go_wp2_with (go_at_call 12; refine (near_any h x _ (by omega) q2).mono ?_; rintro e w' ⟨rfl, rfl⟩)
          go_ret2
          exact ⟨HB.out, .inl rfl⟩
        · have hne : (nearD h x != -32768) = true := by simp [hnd]
          have HND := Lib.hid hnd
          clear hnd
          by_cases hneg : h + nearD h x < 0
          · go_wp2_with (go_at_call 12; refine (near_any h x _ (by omega) q2).mono ?_; rintro e w' ⟨rfl, rfl⟩)
            go_ret2
            exact ⟨HB.out, .inl rfl⟩
          · have h2 : 0 < k → h + nearD h x = h + nearD h (ls.getD k 0) ∧ nearD h (ls.getD k 0) ≠ -32768 := fun _ => by
              rw [← HX.out]
              exact ⟨rfl, HND.out⟩
            have H2 := Lib.hid h2
            clear h2
            by_cases hup : h < h + nearD h x
            · have H3 : Hid (h + nearD h x = if k = 0 ∨ h < h + nearD h x then h + nearD h x else h) := by show h + nearD h x = _; rw [if_pos (.inr hup)]
              go_wp2_with (first
                | (go_at_call 12; refine (near_any h x _ (by omega) q2).mono ?_; rintro e w' ⟨rfl, rfl⟩)
                | (at_builtin; refine wpList_append_lies _ rfl _ _ _ rfl w.heap.size 2 i0 _ 1 8 Tryd.underlying23 hi0 hz0 hz1 hz2 rfl (by omega) u4 k _ rfl (HOWN.out.alloc _) ⟨wr.heap.size, 0, none⟩ 1 1 [.int .i64 (h + nearD h x)] rfl rfl (World.news_of_block (cs := #[.int .i64 (h + nearD h x)]) (t := 2) (fr := (0, 0)) (heap_alloc_new wr _)) (by simp [Value.oneCell']) (by omega) (by simp only [maxLen]; omega) (by omega) (by simp; omega) (wr.heap.size + 1) (by simp) ?_; intro gg cap w1 hown1 hgrow hat hlt1))
              exact ⟨⟨k + 1, h + nearD h x, by omega, by go_num, rfl, lninv_step hlk HST.out HH.out H3.out (by omega) (by omega) H2.out HOWN.out HB.out hown1 hgrow⟩, by simp [intOf]; omega⟩
            · have H3 : Hid (h = if k = 0 ∨ h < h + nearD h x then h + nearD h x else h) := by show h = _; rw [if_neg (by have := HK0.out; omega)]
              go_wp2_with (first
                | (go_at_call 12; refine (near_any h x _ (by omega) q2).mono ?_; rintro e w' ⟨rfl, rfl⟩)
                | (at_builtin; refine wpList_append_lies _ rfl _ _ _ rfl w.heap.size 2 i0 _ 1 8 Tryd.underlying23 hi0 hz0 hz1 hz2 rfl (by omega) u4 k _ rfl (HOWN.out.alloc _) ⟨wr.heap.size, 0, none⟩ 1 1 [.int .i64 (h + nearD h x)] rfl rfl (World.news_of_block (cs := #[.int .i64 (h + nearD h x)]) (t := 2) (fr := (0, 0)) (heap_alloc_new wr _)) (by simp [Value.oneCell']) (by omega) (by simp only [maxLen]; omega) (by omega) (by simp; omega) (wr.heap.size + 1) (by simp) ?_; intro gg cap w1 hown1 hgrow hat hlt1))
              exact ⟨⟨k + 1, h, by omega, by go_num, rfl, lninv_step hlk HST.out HH.out H3.out (by omega) (by omega) H2.out HOWN.out HB.out hown1 hgrow⟩, by simp [intOf]; omega⟩
    · obtain ⟨outs, hown, hst, hb, hh⟩ := hinv.out
      obtain rfl : k = n := by omega
      obtain ⟨A1, c1, rfl, hcap⟩ := own_cap hown
      have HST := Lib.hid hst
      have HOWN := Lib.hid hown
      have HB := Lib.hid hb
      clear hst hown hb hinv hh
      go_wp2_with fail
      go_ret2
      refine ⟨HB.out, .inr ⟨A1, c1, outs, rfl, hcap, Reads.own HOWN.out, ?_⟩⟩
      have h := HST.out
      rwa [List.take_of_length_le (by have := HLEN.out; omega)] at h

set_option maxRecDepth 1000000 in
set_option maxHeartbeats 1600000 in
theorem fnRetained_any (size : Int) (n c m d : Nat) (A Q : Option Addr) (ns qs : List Nat) (w : World)
    (hr : Reads w w.heap.size 1 A n (U16s ns)) (hn : n ≤ 9223372036854775807) (hns : ∀ q ∈ ns, q ≤ 65535)
    (hq : Reads w w.heap.size 1 Q m (U16s qs)) (hm : m ≤ 9223372036854775807) (hqs : ∀ q ∈ qs, q ≤ 65535) (hE : ErrAt w) :
    Calls Tryd.prog 3 #[.int .i64 size, .slice A n c, .slice Q m d] w (Holds w) := by
  have hlen : ns.length = n := by simpa [U16s] using hr.1
  have hlq : qs.length = m := by simpa [U16s] using hq.1
  have HR := Lib.hid hr
  have HQ := Lib.hid hq
  have HNS := Lib.hid hns
  have HQS := Lib.hid hqs
  have HLEN := Lib.hid hlen
  have HLQ := Lib.hid hlq
  have HERR := Lib.hid hE
  clear hr hq hns hqs hlen hlq hE
  by_cases hbig : 2147483647 < n
  · go_enter Tryd.func3, Tryd.ntmps3
    go_wp2_with fail
    go_ret
    exact ⟨rfl, Below.refl _ _⟩
  have hn2 : n ≤ 2147483647 := by omega
  clear hbig
  by_cases hbig : 2147483647 < m
  · go_enter Tryd.func3, Tryd.ntmps3
    go_wp2_with fail
    go_ret
    exact ⟨rfl, Below.refl _ _⟩
  have hm2 : m ≤ 2147483647 := by omega
  clear hbig
  have HR2 := HR.out
  rw [u16s_ints] at HR2
  have HRI := Lib.hid HR2
  clear HR2
  go_enter Tryd.func3, Tryd.ntmps3
  go_wp2_with fail
  refine (line_any2 n c A (Ints ns) w HRI.out hn2 (fun y hy => by simp only [Ints, List.mem_map] at hy; obtain ⟨q, hq, rfl⟩ := hy; have := HNS.out q hq; omega)).mono ?_
  rintro e w1 ⟨hb1, rfl | ⟨A1, c1, outs, rfl, hcap, hr1, hst⟩⟩
  · have HB1 := Lib.hid hb1
    clear hb1
    go_wp2_with fail
    refine (works_true w1).mono ?_
    rintro e w2 ⟨rfl, hb2⟩
    have HB2 := Lib.hid hb2
    clear hb2
    go_wp2_with fail
    go_ret
    exact ⟨rfl, HB1.out.trans (HB2.out.mono HB1.out.size)⟩
  · have HB1 := Lib.hid hb1
    have HR1 := Lib.hid hr1
    have HST := Lib.hid hst
    have HSM := Lib.hid (line_small HNS.out hst (by have := HLEN.out; omega))
    clear hb1 hr1 hst
    by_cases h200 : 200 < n
    · go_wp2_with fail
      refine (works_true w1).mono ?_
      rintro e w2 ⟨rfl, hb2⟩
      have HB2 := Lib.hid hb2
      clear hb2
      go_wp2_with fail
      go_ret
      exact ⟨rfl, HB1.out.trans (HB2.out.mono HB1.out.size)⟩
    by_cases h200q : 200 < m
    · go_wp2_with fail
      refine (works_true w1).mono ?_
      rintro e w2 ⟨rfl, hb2⟩
      have HB2 := Lib.hid hb2
      clear hb2
      go_wp2_with fail
      go_ret
      exact ⟨rfl, HB1.out.trans (HB2.out.mono HB1.out.size)⟩
    go_wp2_with fail
    refine (power_any size w1).mono ?_
    rintro e w2 ⟨rfl, b, rfl, hb⟩
    cases b with
    | false =>
      clear hb
      go_wp2_with fail
      refine (works_true w1).mono ?_
      rintro e w2 ⟨rfl, hb2⟩
      have HB2 := Lib.hid hb2
      clear hb2
      go_wp2_with fail
      go_ret
      exact ⟨rfl, HB1.out.trans (HB2.out.mono HB1.out.size)⟩
    | true =>
      obtain ⟨S, rfl, hp, hS1, hS2⟩ := pow_of_power (hb.1 rfl)
      have HP := Lib.hid hp
      have HS2 := Lib.hid hS2
      have hS3 : S ≤ 65535 := by omega
      clear hb hp hS2
      go_wp2_with fail
      refine (apart_any n c1 A1 outs w1 HR1.out hn hcap).mono ?_
      rintro e w2 ⟨hw, b, rfl, hb⟩
      have hw := hw.symm
      subst hw
      cases b with
      | false =>
        clear hb
        go_wp2_with fail
        refine (works_true w1).mono ?_
        rintro e w2 ⟨rfl, hb2⟩
        have HB2 := Lib.hid hb2
        clear hb2
        go_wp2_with fail
        go_ret
        exact ⟨rfl, HB1.out.trans (HB2.out.mono HB1.out.size)⟩
      | true =>
        have HD := Lib.hid (hb rfl)
        clear hb
        go_wp2_with fail
        refine (retained_impl S n c m d A Q ns qs w1 (HERR.out.below HB1.out) (fun _ => hS1) hS3 ((HR.out.below HB1.out).more HB1.out.size) (by omega) HNS.out ((HQ.out.below HB1.out).more HB1.out.size) (by omega) HQS.out).mono ?_
        rintro e w2 ⟨hb2, ⟨_, R, A2, c2, hfed, rfl, hr2⟩ | ⟨hp, rfl⟩⟩
        · rw [HLQ.out] at hr2
          have hl2 := HLQ.out
          have HB2 := Lib.hid hb2
          have HR2 := Lib.hid hr2
          have HF := Lib.hid hfed
          rw [hl2]
          clear hb2 hr2 hfed hl2
          go_wp2_with fail
          go_loopw [69] (fun i wr => ∃ k mm : Nat, k ≤ m ∧ i = .int .i64 k ∧ Hid (wr = w2.drewN mm)) (fun i _ => m - (intOf i).toNat)
          case atStart => exact ⟨0, 0, by omega, rfl, rfl⟩
          case round =>
            obtain ⟨k, mm, hk, rfl, hw⟩ := hrel
            obtain rfl := hw.out
            clear hw
            by_cases hlt : k < m
            · obtain ⟨ad1, q, rfl, _, hqk, hq1, hc1⟩ := u16s_at ((HQ.out.below HB1.out).below (HB2.out.mono HB1.out.size)) HQS.out hlt
              obtain ⟨ad2, u2, rfl, _, hu2, hc2⟩ := HR2.out.at1 hlt
              rw [OutVs, List.getElem?_map, hqk] at hu2
              simp only [Option.map_some, Option.some.injEq] at hu2
              subst hu2
              have hi1 : (k : Int) < (m : Int) := by omega
              have HQK := Lib.hid hqk
              obtain ⟨o, ho⟩ : ∃ o, outOf R q = o := ⟨_, rfl⟩
              rw [ho] at hc2
              have HO := Lib.hid ho
              clear hqk ho
              go_wp2_with fail
              refine (at_any n c1 w1.heap.size A1 outs S q (w2.drewN mm) (HR1.out.below (below_drewN HB2.out mm)) hn HSM.out (by omega)).mono ?_
              rintro e w3 ⟨⟨m3, rfl⟩, at_, told, rfl, htold⟩
              cases told with
              | false =>
                clear htold
                go_wp2_with fail
                exact ⟨⟨k + 1, _, by omega, by go_num, rfl⟩, by simp [intOf]; omega⟩
              | true =>
                obtain ⟨f, h, hE, hnd, hat⟩ := htold rfl
                have hg : o = at_ := by
                  obtain ⟨g1, g2⟩ := ret_law HP.out hS1 HS2.out HNS.out HST.out HD.out hE (by rw [HLEN.out]; have := HF.out; rwa [HLEN.out] at this) hq1 hnd
                  rw [← HO.out]
                  rcases hat with ⟨h1, h2⟩ | ⟨i, h1, h2⟩
                  · rw [h1, g1 h2]
                  · rw [h1, g2 i h2]
                subst hg
                have hne : (o != o) = false := by simp
                clear htold hE hnd hat
                go_wp2_with fail
                exact ⟨⟨k + 1, _, by omega, by go_num, rfl⟩, by simp [intOf]; omega⟩
            · go_wp2_with fail
              refine (works_true _).mono ?_
              rintro e w3 ⟨rfl, hb3⟩
              have HB3 := Lib.hid hb3
              clear hb3
              go_wp2_with fail
              go_ret
              exact ⟨rfl, HB1.out.trans (((below_drewN HB2.out mm).trans (HB3.out.mono (by simpa using HB2.out.size))).mono HB1.out.size)⟩
        · exact absurd HP.out hp
end Go.Proofs.YtlkmmkphpiamcaaDoor
