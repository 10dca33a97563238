/-
  The recorder: maybeBuildFeedbackPacket. Condition: the recorder lies in its blocks; all numbers within 256; times are multiples of 250. By an AI agent.
-/
import Derived.Test.YtlkmmkphpiamcaaKu
namespace Go.Proofs.Ytlkmmkphpiamcaa
open Go.RowKit

theorem clamp_in {b e s : Nat} (h1 : b ≤ s) (h2 : s ≤ e) : clamp b e s = s := by unfold clamp; rw [if_neg (by omega), if_neg (by omega)]

/-- One end alone. -/
def OnlyV (A : Act) (W : World) : Exit → Act → World → Prop := fun e a w => match e with
  | .normal => a = A ∧ w = W
  | _ => False
theorem wp_onlyV {P : Program} {c : Code} {Q : Exit → Act → World → Prop} {a : Act} {w : World} (A : Act) (W : World) (h : c.wp P (OnlyV A W) a w) (hq : Q .normal A W) : c.wp P Q a w :=
  Code.wp_mono (fun e a w h => by
    cases e <;> first | (obtain ⟨rfl, rfl⟩ := h; exact hq) | exact h.elim) h

theorem less_round {e x s : Nat} (h : s ≤ x) (hx : x < e) : e - (intOf (.int .i64 ((x : Int) + 1))).toNat < e - (intOf (.int .i64 (s : Int))).toNat := by
  have h1 : (intOf (.int .i64 ((x : Int) + 1))).toNat = x + 1 := by simp only [intOf]; omega
  have h2 : (intOf (.int .i64 (s : Int))).toNat = s := by simp only [intOf]; omega
  rw [h1, h2]
  omega
/-- In the loop: feedback is being built. -/
structure InLoop (w wr : World) (r g C b e : Nat) (F : Nat → Int) (p s L : Nat) (sd md : Int) (cnt held : Nat) (k : Nat) (f : FB) (st : St) (n x : Nat) : Prop where
  hs : s ≤ x
  hx : x < e
  h0 : 0 ≤ F x
  hn : ∀ i, s ≤ i → i < x → F i < 0
  hk : w.heap.size ≤ f.rt
  ok : FbOk wr k f s st sd md (cnt : Int) (F x / 64000) n
  told : Told F s (st00 s (F x)) st
  hq : s < st.q ∧ st.q ≤ e
  rcd : RecAt wr r g C b e F p s L sd md ((cnt + 1) % 256) held
  touch : Touch (fun q => q = r ∨ q = p ∨ w.heap.size ≤ q) w wr
  low : r < k ∧ g < k ∧ p < k

theorem InLoop.drewN {w wr : World} {r g C b e : Nat} {F : Nat → Int} {p s L : Nat} {sd md : Int} {cnt held k : Nat} {f : FB} {st : St} {n x : Nat} (h : InLoop w wr r g C b e F p s L sd md cnt held k f st n x) (m : Nat) : InLoop w (wr.drewN m) r g C b e F p s L sd md cnt held k f st n x :=
  ⟨h.hs, h.hx, h.h0, h.hn, h.hk, h.ok.drewN m, h.told, h.hq, h.rcd.drewN m, h.touch.drewN m, h.low⟩
/-- Another one has been added. -/
theorem InLoop.next {w wr w5 : World} {r g C b e : Nat} {F : Nat → Int} {p s L : Nat} {sd md : Int} {cnt held k : Nat} {f f' : FB} {st : St} {n n' x y : Nat} (h : InLoop w wr r g C b e F p s L sd md cnt held k f st n x) (hq : st.q ≤ y) (hye : y < e)
    (hn : ∀ i, st.q ≤ i → i < y → F i < 0) (h0 : 0 ≤ F y) (hfit : fitsD (F y - st.t)) (hok : FbOk w5 k f' s (nextSt F y st) sd md (cnt : Int) (F x / 64000) n') (ht : Touch (fun b => k ≤ b) wr w5) :
    InLoop w w5 r g C b e F p s L sd md cnt held k f' (nextSt F y st) n' x := by
  have hk := h.hk
  have hrt := h.ok.rt
  have hrt' := hok.rt
  have hhq := h.hq
  refine ⟨h.hs, h.hx, h.h0, h.hn, by omega, hok, h.told.next hq hn h0 hfit, ⟨by simp only [nextSt]; omega, by simp only [nextSt]; omega⟩, ?_, h.touch.trans ht fun i hi hh => by right; right; omega, h.low⟩
  have hl := h.low
  exact h.rcd.touch ht (by omega) (by omega) (by omega)
theorem built_of {w W w9 : World} {r g C b e : Nat} {F : Nat → Int} {p s L : Nat} {sd md : Int} {cnt held k : Nat} {f : FB} {st : St} {n x : Nat} (h : InLoop w W r g C b e F p s L sd md cnt held k f st n x)
    (he : foldSt F s (e - s) (st00 s (F x)) = some st ∨ foldSt F s (e - s) (st00 s (F x)) = none) (r9 : RecAt w9 r g C b e F p st.q L sd md ((cnt + 1) % 256) held) (t9 : Touch (· = p) W w9) :
    Built w w9 r g C b e F p s L sd md cnt held (.returned (.pointer (some ⟨k, 0, none⟩))) :=
  .some k f st n x h.hs h.hx h.h0 h.hn rfl h.hk (h.ok.touch t9 fun q t cs hq hz => by subst hz; exact .inr (kindOf hq h.rcd.box)) ⟨h.told, he⟩ h.hq r9 (h.touch.trans t9 fun _ _ hh => .inr (.inl hh))

set_option maxRecDepth 1000000 in
set_option maxHeartbeats 2000000 in
theorem mayBuild_any (r g C b e p s L : Nat) (F : Nat → Int) (sd md : Int) (cnt held : Nat) (w : World) (hR : RecAt w r g C b e F p s L sd md cnt held) (hbs : b ≤ s) (hse : s ≤ e) (hes : e < s + 256) (hF : ∀ i, F i < 0 ∨ goodT (F i)) (_hc : cnt < 256) (he : e < 140737488355000) :
    Calls Try.prog 85 #[.pointer (some ⟨r, 0, none⟩), .int .i64 (s : Int), .int .i64 (e : Int)] w fun v w' => Built w w' r g C b e F p s L sd md cnt held v := by
  have c1 := hR.mp.map.c1
  have c2 := hR.mp.map.c2
  have HCL := Lib.hid (clamp_any r b e)
  have hcl1 : clamp b e s = s := clamp_in hbs hse
  have hcl2 : clamp b e e = e := clamp_in (Nat.le_trans hbs hse) (Nat.le_refl e)
  have HR := Lib.hid hR
  have HBS := Lib.hid (And.intro hbs hse)
  have HF := Lib.hid hF
  clear hR hF
  go_enter Try.func85, Try.ntmps85
  go_upto_region 1 with fail
  go_quiet ((go_at_call 99; exact Calls.quiet_of_same (HCL.out _ _ c1 c2)))
  simp only [hcl1, hcl2]
  clear hcl1 hcl2
  go_wp2_with fail
  go_loopw [9, 10, 11] (fun v9 v10 v11 wr => (v9 = .pointer none ∧ v10 = .int .i64 (s : Int) ∧ v11 = .int .i64 (s : Int) ∧ Hid (∃ m, wr = w.drewN m)) ∨
      (∃ (k : Nat) (f : FB) (st : St) (n x q : Nat), v9 = .pointer (some ⟨k, 0, none⟩) ∧ v10 = .int .i64 (q : Int) ∧ v11 = .int .i64 (q : Int) ∧ Hid (st.q = q) ∧ Hid (InLoop w wr r g C b e F p s L sd md cnt held k f st n x))) (fun _ _ v11 _ => e - (intOf v11).toNat)
  case atStart => exact .inl ⟨rfl, rfl, rfl, _, rfl⟩
  case round =>
    have hbs2 := HBS.out
    rcases hrel with ⟨rfl, rfl, rfl, hm⟩ | ⟨k, f, st, n, x, q, rfl, rfl, rfl, hq, hI⟩
    · obtain ⟨m, hm'⟩ := hm.out
      have RW : Hid (RecAt wr r g C b e F p s L sd md cnt held) := by rw [hm']; exact HR.out.drewN m
      have TW : Hid (Touch (fun q => q = r ∨ q = p ∨ w.heap.size ≤ q) w wr) := by rw [hm']; exact (Touch.refl _ w).drewN m
      have SW : w.heap.size = wr.heap.size := by rw [hm']; rfl
      clear hm hm'
      by_cases hlt : s < e
      · go_wp2_with fail
        refine (find_next_any r g C b e s F _ RW.out.mp.map).mono ?_
        rintro v w' ⟨u, rfl, hf, n2, rfl⟩
        obtain ⟨W1, hW1⟩ : ∃ W1, wr.drewN n2 = W1 := ⟨_, rfl⟩
        have RW1 : Hid (RecAt W1 r g C b e F p s L sd md cnt held) := by rw [← hW1]; exact RW.out.drewN n2
        have TW1 : Hid (Touch (fun q => q = r ∨ q = p ∨ w.heap.size ≤ q) w W1) := by rw [← hW1]; exact TW.out.drewN n2
        have SW1 : w.heap.size = W1.heap.size := by rw [← hW1]; exact SW
        rw [hW1]
        rw [clamp_in hbs hse] at hf
        clear hW1
        rcases hf with ⟨x, hsx, hxe, h0, hn, rfl⟩ | ⟨hn, rfl⟩
        · have d6 := RW1.out.mp.blk.cell 6
          have d7 := RW1.out.mp.blk.cell 7
          have d8 := RW1.out.mp.blk.cell 8
          have f8 := RW1.out.mp.blk.free 8
          simp [recC, restC] at d6 d7 d8
          have HN := Lib.hid hn
          obtain ⟨t, ht⟩ : ∃ t, F x = t := ⟨_, rfl⟩
          have HT := Lib.hid ht
          have hgood : Hid (goodT t) := by rcases HF.out x with h | h; (exact absurd h0 (by omega)); (rw [← ht]; exact h)
          rw [ht] at h0 ⊢
          clear hn ht
          go_upto_region 11 with fail
          apply wp_onlyV
          · go_region_law (go_simp; go_at_call 101; refine (newFb_any sd md (cnt : Int) _).mono ?_; rintro v w' ⟨rfl, rfl⟩)
            all_goals exact ⟨rfl, rfl⟩
          obtain ⟨z, hz⟩ : ∃ z, W1.heap.size = z := ⟨_, rfl⟩
          obtain ⟨W2, hW2⟩ : ∃ W2, ((W1.alloc (.cells (rp0 sd md (cnt : Int)).cells 169)).alloc (.cells (fb0 W1.heap.size).cells 202)).drew = W2 := ⟨_, rfl⟩
          have FA2 : FbAt W2 (z + 1) (z + 1) (fb0 z) [] [] 0 := by
            rw [← hW2, ← hz]
            exact (newFb_at W1 _).drewN 1
          have RP2 : Blk W2 z 169 (rp0 sd md (cnt : Int)).cells := by
            rw [← hW2, ← hz]
            exact ((Blk.new W1 169 _).alloc _).drew
          have T2 : Touch Nowhere W1 W2 := by
            rw [← hW2]
            exact (((Touch.refl Nowhere W1).alloc _).alloc _).drew
          have RW2 : RecAt W2 r g C b e F p s L sd md cnt held := RW1.out.touch T2 (fun h => h) (fun h => h) (fun h => h)
          rw [hW2, hz]
          have hrz : r < z := by rw [← hz]; exact RW1.out.mp.blk.lt
          have hpz : p < z := by rw [← hz]; exact RW1.out.box.lt
          have hgz : g < z := by
            obtain ⟨cs, hb, _⟩ := RW1.out.mp.row
            rw [← hz]
            exact hb.lt
          obtain ⟨c2, hc2⟩ : ∃ c2, (cnt + 1) % 256 = c2 := ⟨_, rfl⟩
          have hw8 : IntKind.u8.wrap ((cnt : Int) + 1) = (c2 : Int) := by rw [IntKind.wrap_u8]; omega
          have RW3 : RecAt (W2.setCell ⟨r, 8, none⟩ (.int .u8 (c2 : Int))) r g C b e F p s L sd md c2 held := ⟨RW2.mp.rest (put8C (rowV g C) b e true L (some ⟨p, 0, none⟩) sd md cnt c2 held), RW2.box.far (p := ⟨r, 8, none⟩) RW2.rp.symm _, RW2.ne⟩
          have T3 : Touch (· = r) W2 (W2.setCell ⟨r, 8, none⟩ (.int .u8 (c2 : Int))) := (Touch.refl (· = r) W2).setCell (p := ⟨r, 8, none⟩) (fun _ => rfl) _
          have FA3 : FbAt (W2.setCell ⟨r, 8, none⟩ (.int .u8 (c2 : Int))) (z + 1) (z + 1) (fb0 z) [] [] 0 := FA2.away T3 (fun h => by omega) fun q t cs hq hk => by
            subst hk
            have := kindOf hq RW2.mp.blk
            subst this
            decide
          have RP3 := RP2.touch T3 (by omega : ¬ z = r)
          have d8 := RW2.mp.blk.cell 8
          have f8 := RW2.mp.blk.free 8
          simp [recC, restC] at d8
          obtain ⟨W3, hW3⟩ : ∃ W3, W2.setCell ⟨r, 8, none⟩ (.int .u8 (c2 : Int)) = W3 := ⟨_, rfl⟩
          rw [hW3] at RW3 T3 FA3 RP3
          have TT3 := Lib.hid (show Touch (fun q => q = r ∨ q = p ∨ w.heap.size ≤ q) w W3 from (TW1.out.trans T2 fun _ _ h => h.elim).trans T3 fun _ _ h => .inl h)
          have HRW3 := Lib.hid RW3
          have HFA3 := Lib.hid FA3
          have HRP3 := Lib.hid RP3
          have HW3 := Lib.hid hW3
          have HZ := Lib.hid (show w.heap.size = z by rw [SW1, hz])
          have HC2 := Lib.hid hc2
          clear FA2 RP2 T2 RW2 RW3 T3 FA3 RP3 hW3 hW2 hz hc2 SW1
          have hmx : (x : Int) - 32766 < (s : Int) := by omega
          obtain ⟨s16, hs16⟩ : ∃ s16, s % 65536 = s16 := ⟨_, rfl⟩
          obtain ⟨x16, hx16⟩ : ∃ x16, x % 65536 = x16 := ⟨_, rfl⟩
          have hws : IntKind.u16.wrap (s : Int) = (s16 : Int) := by rw [IntKind.wrap_u16]; omega
          have hwx : IntKind.u16.wrap (x : Int) = (x16 : Int) := by rw [IntKind.wrap_u16]; omega
          have HS16 := Lib.hid hs16
          have HX16 := Lib.hid hx16
          clear hs16 hx16
          go_upto_region 13 with fail
          rw [HW3.out]
          go_wp2_with fail
          refine (setBase_any (z + 1) (z + 1) 0 (fb0 z) [] [] s16 t W3 HFA3.out ⟨hgood.out.1, hgood.out.2.2⟩).mono ?_
          rintro v W4 ⟨rfl, fa4, t4⟩
          have hrw4 := HRW3.out.touch t4 (by omega) (by omega) (by omega)
          have hok4 : FbOk W4 (z + 1) { fb0 z with base := s16, next := s16, ref := t / 64000, last := t / 64000 * 64000 } s (st00 s t) sd md (cnt : Int) (t / 64000) 0 := by
            have hg1 := hgood.out
            unfold goodT at hg1
            refine ⟨fa4, rfl, HRP3.out.touch t4 (by omega : ¬ z = z + 1), HS16.out.symm, rfl, by omega, rfl, ?_, HS16.out.symm, rfl, ⟨Int.le_refl _, Int.le_refl _⟩, by simp [st00], by simp [st00]⟩
            unfold goodT st00
            simp only
            omega
          have HOK4 := Lib.hid hok4
          have HRW4 := Lib.hid hrw4
          have HT4 := Lib.hid (TT3.out.trans t4 fun i hi h => by have := HZ.out; right; right; omega)
          clear fa4 t4 hok4 hrw4
          have hadd := HOK4.out.add (F := F) (x := x) hsx (by omega) (by rw [HT.out]; exact hgood.out)
          rw [HT.out, HX16.out] at hadd
          have HADD := Lib.hid hadd
          clear hadd
          go_wp2_with fail
          refine HADD.out.mono ?_
          rintro v w5 (⟨hfit, rfl, f', n', hok5, t5⟩ | ⟨hfit, rfl, rfl⟩)
          · have hq5 := hok5.q
            have hr5 := HRW4.out.touch t5 (by omega) (by omega) (by omega)
            have hin : InLoop w w5 r g C b e F p s L sd md cnt held (z + 1) f' (nextSt F x (st00 s t)) n' x := by
              refine ⟨hsx, hxe, by rw [HT.out]; exact h0, HN.out, by have := hok5.rt; have := HZ.out; omega, by rw [HT.out]; exact hok5, ?_, ⟨by simp only [nextSt]; omega, by simp only [nextSt]; omega⟩, by rw [HC2.out]; exact hr5, HT4.out.trans t5 fun i hi h => by have := HZ.out; right; right; omega, by omega⟩
              have ht0 := Told.zero F (st00 s t)
              have h9 := ht0.next (x := x) hsx HN.out (by rw [HT.out]; exact h0) (by rw [HT.out]; exact hfit)
              rw [HT.out]
              exact h9
            have HIN := Lib.hid hin
            clear hok5 t5 hr5 hin hq5
            have hxw : wrap64 ((x : Int) + 1) = ((x + 1 : Nat) : Int) := by unfold wrap64; omega
            go_wp2_with fail
            rw [hxw]
            exact ⟨.inr ⟨z + 1, f', nextSt F x (st00 s t), n', x, x + 1, rfl, rfl, rfl, (rfl : (nextSt F x (st00 s t)).q = x + 1), HIN.out⟩, less_round hsx hxe⟩
          · exact absurd (fits_first hgood.out) hfit
        · have HNN := Lib.hid hn
          clear hn
          go_wp2_with fail
          refine (setStart_some r g C b e s p s L F sd md cnt held W1 RW1.out).mono ?_
          rintro v w9 ⟨rfl, r9, t9⟩
          have HB9 : Hid (Built w w9 r g C b e F p s L sd md cnt held (.returned (.pointer none))) := .none HNN.out rfl r9 (TW1.out.trans t9 fun _ _ h => .inr (.inl h))
          clear r9 t9
          go_wp2_with fail
          go_ret
          exact HB9.out
      · have HNN := Lib.hid (show ∀ i, s ≤ i → i < e → F i < 0 from fun i h1 h2 => by omega)
        go_wp2_with fail
        refine (setStart_some r g C b e s p s L F sd md cnt held wr RW.out).mono ?_
        rintro v w9 ⟨rfl, r9, t9⟩
        have HB9 : Hid (Built w w9 r g C b e F p s L sd md cnt held (.returned (.pointer none))) := .none HNN.out rfl r9 (TW.out.trans t9 fun _ _ h => .inr (.inl h))
        clear r9 t9
        go_wp2_with fail
        go_ret
        exact HB9.out
    · have hqs : s < q ∧ q ≤ e := by have := hI.out.hq; have := hq.out; omega
      by_cases hlt : q < e
      · go_wp2_with fail
        refine (find_next_any r g C b e q F _ hI.out.rcd.mp.map).mono ?_
        rintro v w' ⟨u, rfl, hf, n2, rfl⟩
        obtain ⟨W1, hW1⟩ : ∃ W1, wr.drewN n2 = W1 := ⟨_, rfl⟩
        have HI1 : Hid (InLoop w W1 r g C b e F p s L sd md cnt held k f st n x) := by rw [← hW1]; exact hI.out.drewN n2
        rw [hW1]
        rw [clamp_in (by omega : b ≤ q) (by omega : q ≤ e)] at hf
        clear hW1
        rcases hf with ⟨y, hqy, hye, h0, hn, rfl⟩ | ⟨hn, rfl⟩
        · have HN := Lib.hid hn
          have HX0 := Lib.hid h0
          have hgood : Hid (goodT (F y)) := by rcases HF.out y with h | h; (exact absurd h0 (by omega)); (exact h)
          have hadd := HI1.out.ok.add (F := F) (x := y) (by have := hq.out; omega) (by omega) hgood.out
          obtain ⟨y16, hy16⟩ : ∃ y16, y % 65536 = y16 := ⟨_, rfl⟩
          have hwy : IntKind.u16.wrap (y : Int) = (y16 : Int) := by rw [IntKind.wrap_u16]; omega
          rw [hy16] at hadd
          obtain ⟨t, ht⟩ : ∃ t, F y = t := ⟨_, rfl⟩
          have HT := Lib.hid ht
          rw [ht] at hadd
          rw [ht]
          have HADD := Lib.hid hadd
          have hyw : wrap64 ((y : Int) + 1) = ((y + 1 : Nat) : Int) := by unfold wrap64; omega
          clear hadd hn h0 ht hy16
          go_wp2_with fail
          refine HADD.out.mono ?_
          rintro v w5 (⟨hfit, rfl, f', n', hok5, t5⟩ | ⟨hfit, rfl, hw5⟩)
          · have HIN := Lib.hid (HI1.out.next (by have := hq.out; omega) hye (by have := hq.out; rw [this]; exact HN.out) HX0.out (by rw [HT.out]; exact hfit) hok5 t5)
            clear hok5 t5
            go_wp2_with fail
            exact ⟨.inr ⟨k, f', nextSt F y st, n', x, y + 1, rfl, rfl, rfl, (rfl : (nextSt F y st).q = y + 1), HIN.out⟩, less_round hqy hye⟩
          · obtain rfl := hw5.symm
            clear hw5
            have hends : foldSt F s (e - s) (st00 s (F x)) = some st ∨ foldSt F s (e - s) (st00 s (F x)) = none := .inr (HI1.out.told.fails (by have := hq.out; omega) (by have := hq.out; rw [this]; exact HN.out) HX0.out (by rw [HT.out]; exact hfit) hye)
            have HENDS := Lib.hid hends
            clear hends
            go_wp2_with fail
            refine (setStart_some r g C b e q p s L F sd md ((cnt + 1) % 256) held W1 HI1.out.rcd).mono ?_
            rintro v w9 ⟨rfl, r9, t9⟩
            have HB9 := Lib.hid (built_of HI1.out HENDS.out (by rw [hq.out]; exact r9) t9)
            clear r9 t9
            go_wp2_with fail
            go_ret
            exact HB9.out
        · have HN := Lib.hid hn
          clear hn
          have hends : foldSt F s (e - s) (st00 s (F x)) = some st ∨ foldSt F s (e - s) (st00 s (F x)) = none := .inl (HI1.out.told.fold (by have := hq.out; omega) (by have := hq.out; rw [this]; exact HN.out))
          have HENDS := Lib.hid hends
          clear hends
          go_wp2_with fail
          refine (setStart_some r g C b e q p s L F sd md ((cnt + 1) % 256) held W1 HI1.out.rcd).mono ?_
          rintro v w9 ⟨rfl, r9, t9⟩
          have HB9 := Lib.hid (built_of HI1.out HENDS.out (by rw [hq.out]; exact r9) t9)
          clear r9 t9
          go_wp2_with fail
          go_ret
          exact HB9.out
      · have HN := Lib.hid (show ∀ i, q ≤ i → i < e → F i < 0 from fun i h1 h2 => by omega)
        have hends : foldSt F s (e - s) (st00 s (F x)) = some st ∨ foldSt F s (e - s) (st00 s (F x)) = none := .inl (hI.out.told.fold (by have := hq.out; omega) (by have := hq.out; rw [this]; exact HN.out))
        have HENDS := Lib.hid hends
        clear hends
        go_wp2_with fail
        refine (setStart_some r g C b e q p s L F sd md ((cnt + 1) % 256) held wr hI.out.rcd).mono ?_
        rintro v w9 ⟨rfl, r9, t9⟩
        have HB9 := Lib.hid (built_of hI.out HENDS.out (by rw [hq.out]; exact r9) t9)
        clear r9 t9
        go_wp2_with fail
        go_ret
        exact HB9.out
end Go.Proofs.Ytlkmmkphpiamcaa
