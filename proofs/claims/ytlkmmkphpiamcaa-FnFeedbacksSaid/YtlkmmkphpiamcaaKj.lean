/-
  The recorder: Record. Condition: the recorder lies in its blocks; all numbers within 200. By an AI agent.
-/
import Derived.Test.YtlkmmkphpiamcaaKi
namespace Go.Proofs.Ytlkmmkphpiamcaa
open Go.RowKit

theorem put7C (s : Value) (b e : Nat) (i : Bool) (L : Nat) (p : Option Addr) (sd md md' : Int) (cnt held : Nat) :
    (recC s b e (restC i L p sd md cnt held)).setIfInBounds 7 (.int .u32 md') = recC s b e (restC i L p sd md' cnt held) := by simp [recC, restC]
theorem put9C (s : Value) (b e : Nat) (i : Bool) (L : Nat) (p : Option Addr) (sd md : Int) (cnt held : Nat) (j : Int) (hj : j = ((held + 1 : Nat) : Int)) :
    (recC s b e (restC i L p sd md cnt held)).setIfInBounds 9 (.int .i64 j) = recC s b e (restC i L p sd md cnt (held + 1)) := by subst hj; simp [recC, restC]
theorem Mp.rest {w : World} {r g C b e : Nat} {F : Nat → Int} {rest rest' : List Value} (h : Mp w r g C b e F rest) {k : Nat} {v : Value} (hp : (recC (rowV g C) b e rest).setIfInBounds k v = recC (rowV g C) b e rest') : Mp (w.setCell ⟨r, k, none⟩ v) r g C b e F rest' := by
  have hrg := h.ne
  obtain ⟨cs, hb, hz, hrow⟩ := h.row
  refine .of h.cap ?_ h.be h.room h.small (hb.far (p := ⟨r, k, none⟩) hrg.symm _) hz hrow
  have h1 := h.blk.put k v
  rwa [hp] at h1

set_option maxHeartbeats 2000000 in
set_option maxRecDepth 100000 in
theorem record_first (r x : Nat) (t sd md md0 : Int) (cnt held : Nat) (w : World) (hR : Blk w r 154 (recC (.slice none 0 0) 0 0 (restC false 0 none sd md0 cnt held))) (hx : x ≤ 65535) (hh : held < 1000) :
    Calls Try.prog 58 #[.pointer (some ⟨r, 0, none⟩), .int .u32 md, .int .u16 (x : Int), .int .i64 t] w fun v w' => v = .returned (.tuple #[]) ∧
      ∃ g p, RecAt w' r g 128 x (x + 1) (setAt (fun _ => -1) x t) p x x sd md cnt (held + 1) ∧ w.heap.size ≤ g ∧ w.heap.size ≤ p ∧ Touch (· = r) w w' := by
  have c7 := hR.cell 7
  simp [recC, restC] at c7
  have f7 := hR.free 7
  have b0 := hR.put 7 (.int .u32 md)
  rw [put7C] at b0
  have t0 := (Touch.refl (· = r) w).setCell (p := ⟨r, 7, none⟩) (fun _ => rfl) (.int .u32 md)
  obtain ⟨W, hW⟩ : ∃ W, w.setCell ⟨r, 7, none⟩ (.int .u32 md) = W := ⟨_, rfl⟩
  rw [hW] at b0 t0
  have B0 := Lib.hid b0
  have T0 := Lib.hid t0
  have HW := Lib.hid hW
  clear hR b0 t0 hW
  go_enter Try.func58, Try.ntmps58
  go_upto_region 1 with fail
  rw [HW.out]
  go_wp2_with fail
  refine (unwrapAt_first r 0 0 0 x _ none sd md cnt held W B0.out hx).mono ?_
  rintro v w1 ⟨rfl, b1, t1⟩
  have B1 := Lib.hid b1
  have T1 := Lib.hid (T0.out.trans t1 fun _ _ h => h)
  clear b1 t1
  go_wp2_with fail
  refine (cull_none r 0 0 x x t _ true sd md cnt held w1 B1.out).mono ?_
  rintro v w' ⟨rfl, n, rfl⟩
  have c5 := (B1.out.drewN n).cell 5
  simp [recC, restC] at c5
  go_wp2_with fail
  refine (setStart_none r 0 0 x x _ true sd md cnt held (w1.drewN n) (B1.out.drewN n)).mono ?_
  rintro v w2 ⟨rfl, b2, bx2, t2⟩
  have hq1 := T1.out.size
  obtain ⟨q, hq⟩ : ∃ q, (w1.drewN n).heap.size = q := ⟨_, rfl⟩
  rw [hq] at b2 bx2
  have hwq : w.heap.size ≤ q := by simp at hq; omega
  have d1 := b2.cell 1
  have d2 := b2.cell 2
  simp [recC, restC] at d1 d2
  have T2 := Lib.hid (T1.out.trans (Touch.undrewN t2) fun _ _ h => h)
  have B2 := Lib.hid b2
  have X2 := Lib.hid bx2
  clear b2 bx2 t2 hq hq1 c5
  go_wp2_with fail
  refine (hasNil_any r x w2 d1 d2).mono ?_
  rintro v w' ⟨rfl, hw⟩
  obtain rfl := hw.symm
  clear hw
  go_wp2_with fail
  refine (add_first r x t _ _ B2.out (by omega)).mono ?_
  rintro v w3 ⟨rfl, g, hg, m3, t3⟩
  have hsz := T2.out.size
  have hqlt := X2.out.lt
  have hrq : r ≠ q := B2.out.unlike X2.out (by decide)
  have x3 := X2.out.touch t3 hrq.symm
  have d9 := m3.blk.cell 9
  have f9 := m3.blk.free 9
  simp [recC, restC] at d9
  have m4 := m3.rest (put9C (rowV g 128) x (x + 1) true x (some ⟨q, 0, none⟩) sd md cnt held ((held : Int) + 1) (by omega))
  have x4 := x3.far (p := ⟨r, 9, none⟩) hrq.symm (.int .i64 ((held : Int) + 1))
  have t4 := (T2.out.trans t3 fun _ _ h => h).setCell (p := ⟨r, 9, none⟩) (fun _ => rfl) (.int .i64 ((held : Int) + 1))
  have hlt : w.heap.size ≤ g := by omega
  have hr4 : RecAt (w3.setCell ⟨r, 9, none⟩ (.int .i64 ((held : Int) + 1))) r g 128 x (x + 1) (setAt (fun _ => -1) x t) q x x sd md cnt (held + 1) := ⟨m4, x4, by omega⟩
  obtain ⟨V, hV⟩ : ∃ V, w3.setCell ⟨r, 9, none⟩ (.int .i64 ((held : Int) + 1)) = V := ⟨_, rfl⟩
  rw [hV] at hr4 t4
  have e5 := hr4.mp.blk.cell 5
  have e1 := hr4.mp.map.c1
  have p0 := hr4.box.cell 0
  simp [recC, restC] at e5
  simp at p0
  have HR4 := Lib.hid hr4
  have HT4 := Lib.hid t4
  have HV := Lib.hid hV
  have HB := Lib.hid (begin_any r x)
  clear m3 t3 x3 m4 x4 t4 hr4 hV hsz hqlt
  go_upto_region 8 with fail
  rw [HV.out]
  go_quiet ((go_at_call 82; exact Calls.quiet_of_same (HB.out _ e1)))
  go_wp2_with fail
  go_end0
  exact ⟨rfl, g, q, HR4.out.drewN _, hlt, hwq, HT4.out.drewN _⟩


/-- Behind Record. -/
def Recorded (w w' : World) (r g b e p s x : Nat) (F : Nat → Int) (t sd md : Int) (cnt held : Nat) : Prop :=
  ∃ b1 g' C', b ≤ b1 ∧ b1 ≤ max b (min x e) ∧ (¬ (e ≤ s ∧ 500000 ≤ t) → b1 = b) ∧ RecAt w' r g' C' (min b1 x) (max e (x + 1)) (setAt (arr b1 e F) x t) p (if x < s then x else s) x sd md cnt (held + 1) ∧ (g' = g ∨ w.heap.size ≤ g') ∧ Touch (fun k => k = r ∨ k = g ∨ k = p) w w'

set_option maxHeartbeats 1500000 in
set_option maxRecDepth 100000 in
theorem record_next (r g C b e p s L x m0 : Nat) (F : Nat → Int) (t sd md md0 : Int) (cnt held : Nat) (w : World) (hR : RecAt w r g C b e F p s L sd md0 cnt held)
    (hbs : b ≤ s) (hse : s ≤ e) (hFx : F x < 0) (hL1 : x < L + 200) (hL2 : L < x + 200) (hm : m0 ≤ b ∧ m0 ≤ x ∧ e ≤ m0 + 200 ∧ x < m0 + 200) (hx : x < 140737488355000) (ht : t < 2000000000000) (hh : held < 1000) :
    Calls Try.prog 58 #[.pointer (some ⟨r, 0, none⟩), .int .u32 md, .int .u16 ((x % 65536 : Nat) : Int), .int .i64 t] w fun v w' => v = .returned (.tuple #[]) ∧
      Recorded w w' r g b e p s x F t sd md cnt held := by
  have c7 := hR.mp.blk.cell 7
  simp [recC, restC] at c7
  have f7 := hR.mp.blk.free 7
  have hrp := hR.rp
  have m0' := hR.mp.rest (put7C (rowV g C) b e true L (some ⟨p, 0, none⟩) sd md0 md cnt held)
  have r0 : RecAt (w.setCell ⟨r, 7, none⟩ (.int .u32 md)) r g C b e F p s L sd md cnt held := ⟨m0', hR.box.far (p := ⟨r, 7, none⟩) hrp.symm _, hR.ne⟩
  have t0 := (Touch.refl (· = r) w).setCell (p := ⟨r, 7, none⟩) (fun _ => rfl) (.int .u32 md)
  obtain ⟨W, hW⟩ : ∃ W, w.setCell ⟨r, 7, none⟩ (.int .u32 md) = W := ⟨_, rfl⟩
  rw [hW] at r0 t0
  have R0 := Lib.hid r0
  have T0 := Lib.hid t0
  have HW := Lib.hid hW
  have HX := Lib.hid hm
  have HFX := Lib.hid hFx
  have HBS := Lib.hid (And.intro hbs hse)
  have HP := Lib.hid hR.box.lt
  obtain ⟨xs, hxs⟩ : ∃ xs, x % 65536 = xs := ⟨_, rfl⟩
  have HU := Lib.hid (unwrapAt_next r g C b e p s L x F sd md cnt held W r0 hL1 hL2 (by omega))
  rw [hxs] at HU ⊢
  obtain ⟨s2, hs2⟩ : ∃ s2, (if x < s then x else s) = s2 := ⟨_, rfl⟩
  have HS2 := Lib.hid hs2
  have HXU := Lib.hid hL1
  clear hR r0 t0 hW hm hFx hbs hse m0' hxs hL2 hL1 hrp hs2
  go_enter Try.func58, Try.ntmps58
  go_upto_region 1 with fail
  rw [HW.out]
  go_wp2_with fail
  refine HU.out.mono ?_
  rintro v w1 ⟨rfl, r1, t1⟩
  have R1 := Lib.hid r1
  have T1 := Lib.hid (T0.out.trans t1 fun _ _ h => h)
  clear r1 t1
  go_wp2_with fail
  refine (cull_any r g C b e p s x x t F sd md cnt held w1 R1.out (by have := HX.out; omega) ht).mono ?_
  rintro v w2 ⟨rfl, b1, g1, C1, hb1, hb2, hb3, r2, hg1, t2⟩
  have HB1 := Lib.hid (And.intro hb1 (And.intro hb2 hb3))
  have HG1 := Lib.hid (show g1 = g ∨ w.heap.size ≤ g1 by have := T1.out.size; omega)
  have T2 := Lib.hid (T1.out.trans t2 fun _ _ h => h)
  have R2 := Lib.hid r2
  have d5 := r2.mp.blk.cell 5
  simp [recC, restC] at d5
  have p0 := r2.box.cell 0
  simp at p0
  clear hb1 hb2 hb3 r2 hg1 t2
  by_cases hxs : x < s
  · have hs2 : Hid (x = s2) := by have := HS2.out; rwa [if_pos hxs] at this
    go_wp2_with fail
    refine (setStart_some r g1 C1 b1 e x p s x F sd md cnt held w2 R2.out).mono ?_
    rintro v w3 ⟨rfl, r3, t3⟩
    rw [show RecAt w3 r g1 C1 b1 e F p x x sd md cnt held ↔ RecAt w3 r g1 C1 b1 e F p s2 x sd md cnt held by rw [← hs2.out]] at r3
    have HR3 := Lib.hid r3
    have HT3 := Lib.hid (show Touch (fun k => k = r ∨ k = g ∨ k = p) w w3 from (T2.out.mono fun _ _ h => .inl h).trans t3 fun _ _ h => .inr (.inr h))
    clear r3 t3 d5 p0
    have hno : decide (0 ≤ arr b1 e F x) = false := by have h := HFX.out; have h2 : arr b1 e F x < 0 := by { unfold arr; split <;> omega }; simpa using h2
    go_wp2_with fail
    refine (has_any r g1 C1 b1 e x F w3 HR3.out.mp.map).mono ?_
    rintro v w' ⟨rfl, n, rfl⟩
    rw [hno]
    go_wp2_with fail
    refine (add_any r g1 C1 b1 e x F t _ (w3.drewN n) (HR3.out.mp.drewN n) (by have := HB1.out; have := HX.out; omega) (by have := HX.out; omega)).mono ?_
    rintro v w4 ⟨rfl, g2, C2, m4, hg2, t4⟩
    have hb1 := HB1.out
    have hxx := HX.out
    obtain ⟨b2, hb2⟩ : ∃ b2, min b1 x = b2 := ⟨_, rfl⟩
    obtain ⟨e2, he2⟩ : ∃ e2, max e (x + 1) = e2 := ⟨_, rfl⟩
    rw [hb2, he2] at m4
    have hp3 := HR3.out.box.lt
    have x4 := (HR3.out.box.drewN n).touch t4 (fun h => h.elim (fun h => HR3.out.rp h.symm) HR3.out.ne)
    have t4' := (HT3.out.trans (Touch.undrewN t4) fun i hi h => h.elim .inl fun h => by have := HG1.out; right; left; omega)
    have hpg : p ≠ g2 := by
      rcases hg2 with rfl | hg2
      · exact HR3.out.ne
      · intro h; subst h; simp at hg2; omega
    have hgg : g2 = g ∨ w.heap.size ≤ g2 := by
      have h1 := HT3.out.size
      have h2 := HG1.out
      simp at hg2
      omega
    have d9 := m4.blk.cell 9
    have f9 := m4.blk.free 9
    simp [recC, restC] at d9
    have m5 := m4.rest (put9C (rowV g2 C2) b2 e2 true x (some ⟨p, 0, none⟩) sd md cnt held ((held : Int) + 1) (by omega))
    have hrp := HR3.out.rp
    have x5 := x4.far (p := ⟨r, 9, none⟩) hrp.symm (.int .i64 ((held : Int) + 1))
    have t5 := t4'.setCell (p := ⟨r, 9, none⟩) (fun _ => .inl rfl) (.int .i64 ((held : Int) + 1))
    have hr5 : RecAt (w4.setCell ⟨r, 9, none⟩ (.int .i64 ((held : Int) + 1))) r g2 C2 b2 e2 (setAt (arr b1 e F) x t) p s2 x sd md cnt (held + 1) := ⟨m5, x5, hpg⟩
    obtain ⟨V, hV⟩ : ∃ V, w4.setCell ⟨r, 9, none⟩ (.int .i64 ((held : Int) + 1)) = V := ⟨_, rfl⟩
    rw [hV] at hr5 t5
    have e5 := hr5.mp.blk.cell 5
    have e1 := hr5.mp.map.c1
    have p0 := hr5.box.cell 0
    simp [recC, restC] at e5
    simp at p0
    have hbs : b2 ≤ s2 := by have := hs2.out; have := HBS.out; omega
    have HF := Lib.hid (show Recorded w V r g b e p s x F t sd md cnt held from
      ⟨b1, g2, C2, hb1.1, hb1.2.1, hb1.2.2, by rw [hb2, he2, HS2.out]; exact hr5, hgg, t5⟩)
    have HV := Lib.hid hV
    have HB := Lib.hid (begin_any r b2)
    have HD : ∀ n, Recorded w (V.drewN n) r g b e p s x F t sd md cnt held := fun n => by
      obtain ⟨b1, g', C', h1, h2, h3, h4, h5, h6⟩ := HF.out
      exact ⟨b1, g', C', h1, h2, h3, h4.drewN n, h5, h6.drewN n⟩
    clear hno m4 t4 x4 t4' m5 x5 t5 hr5 hV hb2 he2 hb1 hxx HF
    go_upto_region 8 with fail
    rw [HV.out]
    go_quiet ((go_at_call 82; exact Calls.quiet_of_same (HB.out _ e1)))
    go_wp2_with fail
    go_end0
    exact ⟨rfl, HD _⟩
  · have hs2 : Hid (s = s2) := by have := HS2.out; rwa [if_neg hxs] at this
    have r3 := R2.out
    rw [show RecAt w2 r g1 C1 b1 e F p s x sd md cnt held ↔ RecAt w2 r g1 C1 b1 e F p s2 x sd md cnt held by rw [← hs2.out]] at r3
    have HR3 := Lib.hid r3
    have HT3 := Lib.hid (show Touch (fun k => k = r ∨ k = g ∨ k = p) w w2 from T2.out.mono fun _ _ h => .inl h)
    clear r3
    have hno : decide (0 ≤ arr b1 e F x) = false := by have h := HFX.out; have h2 : arr b1 e F x < 0 := by { unfold arr; split <;> omega }; simpa using h2
    go_wp2_with fail
    refine (has_any r g1 C1 b1 e x F w2 HR3.out.mp.map).mono ?_
    rintro v w' ⟨rfl, n, rfl⟩
    rw [hno]
    go_wp2_with fail
    refine (add_any r g1 C1 b1 e x F t _ (w2.drewN n) (HR3.out.mp.drewN n) (by have := HB1.out; have := HX.out; omega) (by have := HX.out; omega)).mono ?_
    rintro v w4 ⟨rfl, g2, C2, m4, hg2, t4⟩
    have hb1 := HB1.out
    have hxx := HX.out
    obtain ⟨b2, hb2⟩ : ∃ b2, min b1 x = b2 := ⟨_, rfl⟩
    obtain ⟨e2, he2⟩ : ∃ e2, max e (x + 1) = e2 := ⟨_, rfl⟩
    rw [hb2, he2] at m4
    have hp3 := HR3.out.box.lt
    have x4 := (HR3.out.box.drewN n).touch t4 (fun h => h.elim (fun h => HR3.out.rp h.symm) HR3.out.ne)
    have t4' := (HT3.out.trans (Touch.undrewN t4) fun i hi h => h.elim .inl fun h => by have := HG1.out; right; left; omega)
    have hpg : p ≠ g2 := by
      rcases hg2 with rfl | hg2
      · exact HR3.out.ne
      · intro h; subst h; simp at hg2; omega
    have hgg : g2 = g ∨ w.heap.size ≤ g2 := by
      have h1 := HT3.out.size
      have h2 := HG1.out
      simp at hg2
      omega
    have d9 := m4.blk.cell 9
    have f9 := m4.blk.free 9
    simp [recC, restC] at d9
    have m5 := m4.rest (put9C (rowV g2 C2) b2 e2 true x (some ⟨p, 0, none⟩) sd md cnt held ((held : Int) + 1) (by omega))
    have hrp := HR3.out.rp
    have x5 := x4.far (p := ⟨r, 9, none⟩) hrp.symm (.int .i64 ((held : Int) + 1))
    have t5 := t4'.setCell (p := ⟨r, 9, none⟩) (fun _ => .inl rfl) (.int .i64 ((held : Int) + 1))
    have hr5 : RecAt (w4.setCell ⟨r, 9, none⟩ (.int .i64 ((held : Int) + 1))) r g2 C2 b2 e2 (setAt (arr b1 e F) x t) p s2 x sd md cnt (held + 1) := ⟨m5, x5, hpg⟩
    obtain ⟨V, hV⟩ : ∃ V, w4.setCell ⟨r, 9, none⟩ (.int .i64 ((held : Int) + 1)) = V := ⟨_, rfl⟩
    rw [hV] at hr5 t5
    have e5 := hr5.mp.blk.cell 5
    have e1 := hr5.mp.map.c1
    have p0 := hr5.box.cell 0
    simp [recC, restC] at e5
    simp at p0
    have hbs : b2 ≤ s2 := by have := hs2.out; have := HBS.out; omega
    have HF := Lib.hid (show Recorded w V r g b e p s x F t sd md cnt held from
      ⟨b1, g2, C2, hb1.1, hb1.2.1, hb1.2.2, by rw [hb2, he2, HS2.out]; exact hr5, hgg, t5⟩)
    have HV := Lib.hid hV
    have HB := Lib.hid (begin_any r b2)
    have HD : ∀ n, Recorded w (V.drewN n) r g b e p s x F t sd md cnt held := fun n => by
      obtain ⟨b1, g', C', h1, h2, h3, h4, h5, h6⟩ := HF.out
      exact ⟨b1, g', C', h1, h2, h3, h4.drewN n, h5, h6.drewN n⟩
    clear hno m4 t4 x4 t4' m5 x5 t5 hr5 hV hb2 he2 hb1 hxx HF
    go_upto_region 8 with fail
    rw [HV.out]
    go_quiet ((go_at_call 82; exact Calls.quiet_of_same (HB.out _ e1)))
    go_wp2_with fail
    go_end0
    exact ⟨rfl, HD _⟩
end Go.Proofs.Ytlkmmkphpiamcaa
