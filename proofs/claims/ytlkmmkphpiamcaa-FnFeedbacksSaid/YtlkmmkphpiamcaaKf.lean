/-
  The map of arrival times: AddPacket. Condition: the map lies at the head of its recorder's block; all numbers within 256. By an AI agent.
-/
import Derived.Test.YtlkmmkphpiamcaaKe
namespace Go.Proofs.Ytlkmmkphpiamcaa
open Go.RowKit

theorem mod_ne {C a b : Nat} (hC : Cap C) (h1 : a < b) (h2 : b < a + C) : a % C ≠ b % C := by
  unfold Cap at hC
  rcases hC with rfl | rfl <;> omega
theorem mod_ne' {C a b : Nat} (hC : Cap C) (h1 : a ≠ b) (h2 : b < a + C) (h3 : a < b + C) : a % C ≠ b % C := by
  rcases Nat.lt_or_ge a b with h | h
  · exact mod_ne hC h h2
  · exact (mod_ne hC (by omega) h3).symm
theorem mod_lt {C : Nat} (hC : Cap C) (a : Nat) : a % C < C := by
  unfold Cap at hC
  exact Nat.mod_lt _ (by omega)
theorem eqlRow (g C : Nat) (w : World) : (binOp .eql 23 (.slice (some ⟨g, 0, none⟩) C C) (.slice none 0 0)).run Try.prog w = .ok (.bool false) w :=
  Lib.run_eql_slice_nil (P := Try.prog) w 23 2 (some ⟨g, 0, none⟩) C C 0 0 Try.underlying23
theorem eqlNone (w : World) : (binOp .eql 23 (.slice none 0 0) (.slice none 0 0)).run Try.prog w = .ok (.bool true) w :=
  Lib.run_eql_slice_nil (P := Try.prog) w 23 2 none 0 0 0 0 Try.underlying23

def setAt (f : Nat → Int) (x : Nat) (t : Int) : Nat → Int := fun s => if s = x then t else f s
theorem Mp.congr {w : World} {r g C b e : Nat} {f f' : Nat → Int} {rest : List Value} (h : Mp w r g C b e f rest) (hf : ∀ s, b ≤ s → s < e → f s = f' s) : Mp w r g C b e f' rest := by
  obtain ⟨cs, hb, hs, hrow⟩ := h.row
  exact ⟨h.cap, h.blk, h.be, h.room, h.small, cs, hb, hs, fun s h1 h2 => by rw [← hf s h1 h2]; exact hrow s h1 h2⟩
theorem Mp.put {w : World} {r g C b e x : Nat} {f : Nat → Int} {t : Int} {rest : List Value} (h : Mp w r g C b e f rest) (h1 : b ≤ x) (h2 : x < e) :
    Mp (w.setCell ⟨g, x % C, none⟩ (.int .i64 t)) r g C b e (setAt (arr b e f) x t) rest := by
  obtain ⟨cs, hb, hs, hrow⟩ := h.row
  have hrg := h.ne
  have hroom := h.room
  refine ⟨h.cap, h.blk.far (p := ⟨g, x % C, none⟩) hrg _, h.be, h.room, h.small, _, hb.put (x % C) _, by simpa using hs, fun s h3 h4 => ?_⟩
  by_cases he : s = x
  · subst he
    rw [Array.getElem?_setIfInBounds, if_pos rfl, if_pos (by rw [hs]; exact mod_lt h.cap _)]
    simp [setAt]
  · rw [Array.getElem?_setIfInBounds, if_neg (mod_ne' h.cap (fun e => he e.symm) (by omega) (by omega)), hrow s h3 h4]
    simp [setAt, he, arr, h3, h4]

/-- Behind AddPacket. -/
def Added (w w' : World) (r g b e x : Nat) (f : Nat → Int) (t : Int) (rest : List Value) : Prop :=
  ∃ g' C', Mp w' r g' C' (min b x) (max e (x + 1)) (setAt (arr b e f) x t) rest ∧ (g' = g ∨ w.heap.size ≤ g') ∧ Touch (fun k => k = r ∨ k = g) w w'

set_option maxHeartbeats 4000000 in
set_option maxRecDepth 1000000 in
theorem add_in (r g C b e x : Nat) (f : Nat → Int) (t : Int) (rest : List Value) (w : World) (hM : Mp w r g C b e f rest) (h1 : b ≤ x) (h2 : x < e) :
    Calls Try.prog 81 #[.pointer (some ⟨r, 0, none⟩), .int .i64 (x : Int), .int .i64 t] w fun v w' => v = .returned (.tuple #[]) ∧ Added w w' r g b e x f t rest := by
  have c0 := hM.map.c0
  have c1 := hM.map.c1
  have c2 := hM.map.c2
  have hsm := hM.small
  have hm := mod_lt hM.cap x
  obtain ⟨cs, hb, hs, hrow⟩ := hM.row
  have hi := hb.cell (x % C)
  rw [hrow x h1 h2] at hi
  have hfr := hb.free (x % C)
  have hfin : Added w (w.drew.setCell ⟨g, x % C, none⟩ (.int .i64 t)) r g b e x f t rest := by
    refine ⟨g, C, ?_, .inl rfl, (Touch.refl _ w).drew.setCell (p := ⟨g, x % C, none⟩) (fun _ => .inr rfl) _⟩
    rw [Nat.min_eq_left h1, Nat.max_eq_left h2]
    exact (hM.drewN 1).put h1 h2
  have HX := Lib.hid (index_any r g C x w.drew c0 hM.cap)
  obtain ⟨m, hmm⟩ : ∃ m, x % C = m := ⟨_, rfl⟩
  obtain ⟨u, hu⟩ : ∃ u, f x = u := ⟨_, rfl⟩
  rw [hmm] at hi hfr hm HX hfin
  rw [hu] at hi
  have HF := Lib.hid hfin
  have hq := eqlRow g C
  clear hfin hM hb hs hrow hmm hu
  go_enter Try.func81, Try.ntmps81
  go_wp2_with fail
  go_region_law (go_simp; go_at_call 96; refine HX.out.mono ?_; rintro e w' ⟨rfl, rfl⟩)
  all_goals go_wp2_with fail
  all_goals refine bodyPost_ret (results_none rfl _ _ _) rfl ?_
  all_goals exact ⟨rfl, HF.out⟩

theorem put1C (s : Value) (b b' e : Nat) (rest : List Value) : (recC s b e rest).setIfInBounds 1 (.int .i64 (b' : Int)) = recC s b' e rest := by simp [recC]
theorem put2C (s : Value) (b e e' : Nat) (rest : List Value) (i : Int) (hi : i = (e' : Int)) : (recC s b e rest).setIfInBounds 2 (.int .i64 i) = recC s b e' rest := by subst hi; simp [recC]

set_option maxHeartbeats 4000000 in
set_option maxRecDepth 1000000 in
theorem add_first (r x : Nat) (t : Int) (rest : List Value) (w : World) (hR : Blk w r 154 (recC (.slice none 0 0) 0 0 rest)) (hx : x < 4611686018427387000) :
    Calls Try.prog 81 #[.pointer (some ⟨r, 0, none⟩), .int .i64 (x : Int), .int .i64 t] w fun v w' => v = .returned (.tuple #[]) ∧
      ∃ g', w.heap.size ≤ g' ∧ Mp w' r g' 128 x (x + 1) (setAt (fun _ => -1) x t) rest ∧ Touch (· = r) w w' := by
  have c0 := hR.cell 0
  simp [recC] at c0
  have HR := Lib.hid hR
  have hq := eqlNone
  clear hR
  go_enter Try.func81, Try.ntmps81
  go_wp2_with fail
  refine (realloc_first r 128 (fun _ => -1) rest _ HR.out (.inl rfl)).mono ?_
  rintro v w1 ⟨rfl, hm1, ht1⟩
  obtain ⟨g, hg⟩ : ∃ g, w.heap.size = g := ⟨_, rfl⟩
  rw [hg] at hm1
  have hrg := hm1.ne
  obtain ⟨cs, hb, hs, hrow⟩ := hm1.row
  have b1 := hm1.blk
  have f1 := b1.free 1
  have d0 := hm1.map.c0
  have d1 := hm1.map.c1
  have b2 := b1.put 1 (.int .i64 (x : Int))
  rw [put1C] at b2
  have f2 := b2.free 2
  have e0 := b2.cell 0
  have e2 := b2.cell 2
  simp [recC, rowV] at e0 e2
  have b3 := b2.put 2 (.int .i64 ((x : Int) + 1))
  rw [put2C _ _ _ (x + 1) _ _ (by omega)] at b3
  have r3 := (hb.far (p := ⟨r, 1, none⟩) hrg.symm (.int .i64 (x : Int))).far (p := ⟨r, 2, none⟩) hrg.symm (.int .i64 ((x : Int) + 1))
  have ht3 := (ht1.setCell (p := ⟨r, 1, none⟩) (fun _ => rfl) (.int .i64 (x : Int))).setCell (p := ⟨r, 2, none⟩) (fun _ => rfl) (.int .i64 ((x : Int) + 1))
  have hlt : x % 128 < cs.size := by omega
  have hgi := r3.cell (x % 128)
  rw [Array.getElem?_eq_getElem hlt] at hgi
  have hgf := r3.free (x % 128)
  obtain ⟨W, hW⟩ : ∃ W, (w1.setCell ⟨r, 1, none⟩ (.int .i64 (x : Int))).setCell ⟨r, 2, none⟩ (.int .i64 ((x : Int) + 1)) = W := ⟨_, rfl⟩
  rw [hW] at r3 ht3 hgi hgf b3
  have i0 := b3.cell 0
  simp [recC, rowV] at i0
  have hfin : Mp (W.drew.setCell ⟨g, x % 128, none⟩ (.int .i64 t)) r g 128 x (x + 1) (setAt (fun _ => -1) x t) rest ∧ Touch (· = r) w (W.drew.setCell ⟨g, x % 128, none⟩ (.int .i64 t)) := by
    refine ⟨⟨.inl rfl, (b3.drew).far (p := ⟨g, x % 128, none⟩) hrg _, by omega, by omega, by omega, _, (r3.drew).put (x % 128) _, by simpa using hs, fun s h1 h2 => ?_⟩, ht3.drew.setCell (p := ⟨g, x % 128, none⟩) (fun h => absurd h (by simp only; omega)) _⟩
    obtain rfl : s = x := by omega
    rw [Array.getElem?_setIfInBounds, if_pos rfl, if_pos hlt]
    simp [setAt]
  have HX := Lib.hid (index_any r g 128 x W.drew i0 (.inl rfl))
  obtain ⟨m, hmm⟩ : ∃ m, x % 128 = m := ⟨_, rfl⟩
  have hm : m < 128 := by omega
  have hmi : (m : Int) < 128 := by omega
  obtain ⟨u, hu⟩ : ∃ u, cs[x % 128] = u := ⟨_, rfl⟩
  rw [hu] at hgi
  rw [hmm] at hgi hgf HX hfin
  have HF := Lib.hid hfin
  have HW := Lib.hid hW
  have HG := Lib.hid hg
  clear hfin hm1 ht1 hb hs hrow b1 b2 b3 r3 ht3 hlt hmm hu hW hg
  go_upto_region 4 with fail
  rw [HW.out]
  go_region_law (go_simp; go_at_call 96; refine HX.out.mono ?_; rintro e w' ⟨rfl, rfl⟩)
  all_goals go_wp2_with fail
  all_goals refine bodyPost_ret (results_none rfl _ _ _) rfl ?_
  all_goals exact ⟨rfl, g, Nat.le_of_eq HG.out, HF.out⟩

/-- The two blocks, in a world in which the map is being changed. -/
theorem Mp.of {w : World} {r g C b e : Nat} {f : Nat → Int} {rest : List Value} {cs : Array Value} (hC : Cap C) (hb : Blk w r 154 (recC (rowV g C) b e rest)) (hbe : b ≤ e) (hr : e ≤ b + C) (hs : e < 4611686018427387904)
    (hg : Blk w g 2 cs) (hz : cs.size = C) (hrow : ∀ s, b ≤ s → s < e → cs[s % C]? = some (.int .i64 (f s))) : Mp w r g C b e f rest := ⟨hC, hb, hbe, hr, hs, cs, hg, hz, hrow⟩

theorem before_row {C b e x : Nat} {f : Nat → Int} {t : Int} {cs cs3 : Array Value} (hC : Cap C) (hs : cs.size = C) (hrow : ∀ s, b ≤ s → s < e → cs[s % C]? = some (.int .i64 (f s)))
    (h1 : x < b) (h2 : e ≤ x + C) (hbe : b ≤ e) (hw : Wiped C (x + 1) b (cs.setIfInBounds (x % C) (.int .i64 t)) cs3) :
    cs3.size = C ∧ ∀ s, x ≤ s → s < e → cs3[s % C]? = some (.int .i64 (setAt (arr b e f) x t s)) := by
  obtain ⟨w1, w2, w3⟩ := hw
  refine ⟨w1, fun s h3 h4 => ?_⟩
  by_cases he : s = x
  · subst he
    rw [w3 _ fun j j1 j2 => (mod_ne hC (by omega) (by omega)).symm, Array.getElem?_setIfInBounds, if_pos rfl, if_pos (by rw [hs]; exact mod_lt hC _)]
    simp [setAt]
  · by_cases hb : s < b
    · rw [w2 s (by omega) hb, setAt, if_neg he, arr, if_neg (by omega)]
    · rw [w3 _ fun j j1 j2 => mod_ne hC (by omega) (by omega), Array.getElem?_setIfInBounds, if_neg (mod_ne hC (by omega) (by omega)), hrow s (by omega) h4, setAt, if_neg he, arr, if_pos (by omega)]
theorem after_row {C b e x : Nat} {f : Nat → Int} {t : Int} {cs cs2 : Array Value} (hC : Cap C) (hrow : ∀ s, b ≤ s → s < e → cs[s % C]? = some (.int .i64 (f s)))
    (h1 : e ≤ x) (h2 : x + 1 ≤ b + C) (hw : Wiped C e x cs cs2) :
    (cs2.setIfInBounds (x % C) (.int .i64 t)).size = C ∧ ∀ s, b ≤ s → s < x + 1 → (cs2.setIfInBounds (x % C) (.int .i64 t))[s % C]? = some (.int .i64 (setAt (arr b e f) x t s)) := by
  obtain ⟨w1, w2, w3⟩ := hw
  refine ⟨by simpa using w1, fun s h3 h4 => ?_⟩
  by_cases he : s = x
  · subst he
    rw [Array.getElem?_setIfInBounds, if_pos rfl, if_pos (by rw [w1]; exact mod_lt hC _)]
    simp [setAt]
  · rw [Array.getElem?_setIfInBounds, if_neg (mod_ne hC (by omega : s < x) (by omega)).symm, setAt, if_neg he]
    by_cases hb : s < e
    · rw [w3 _ fun j j1 j2 => (mod_ne hC (by omega) (by omega)).symm, hrow s h3 hb, arr, if_pos (by omega)]
    · rw [w2 s (by omega) (by omega), arr, if_neg (by omega)]

theorem touch3 {w w1 W w3 : World} {r g g1 : Nat} (h1 : Touch (· = r) w w1) (h2 : Touch (· = g1) w1 W) (h3 : Touch (· = g1) W w3) (hg : g1 = g ∨ w.heap.size ≤ g1) : Touch (fun k => k = r ∨ k = g) w w3 :=
  (((h1.mono fun _ _ h => .inl h).trans h2 fun i hi h => .inr (by omega)).trans h3 fun i hi h => .inr (by omega))

set_option maxHeartbeats 4000000 in
set_option maxRecDepth 1000000 in
theorem add_before (r g C b e x : Nat) (f : Nat → Int) (t : Int) (rest : List Value) (w : World) (hM : Mp w r g C b e f rest) (h1 : x < b) (h2 : e ≤ x + 256) :
    Calls Try.prog 81 #[.pointer (some ⟨r, 0, none⟩), .int .i64 (x : Int), .int .i64 t] w fun v w' => v = .returned (.tuple #[]) ∧ Added w w' r g b e x f t rest := by
  have c0 := hM.map.c0
  have c1 := hM.map.c1
  have c2 := hM.map.c2
  have hsm := hM.small
  have hbe := hM.be
  have hq := eqlRow g C
  have hn : wrap64 ((e : Int) - (x : Int)) = ((e - x : Nat) : Int) := by unfold wrap64; omega
  obtain ⟨n, hnx⟩ : ∃ n, e - x = n := ⟨_, rfl⟩
  rw [hnx] at hn
  have hn256 : n ≤ 256 := by omega
  have hni : (e : Int) - (x : Int) = (n : Int) := by omega
  have HM := Lib.hid hM
  have HN := Lib.hid hnx
  clear hM hnx
  go_enter Try.func81, Try.ntmps81
  go_wp2_with fail
  refine (adjust_any r g C b e n f rest _ HM.out hn256 (by omega)).mono ?_
  rintro v w1 ⟨rfl, g1, C1, hnC, hm1, hg1, ht1⟩
  have hnx := HN.out
  have hC1 := hm1.cap
  obtain ⟨cs, hb, hs, hrow⟩ := hm1.row
  have hrg := hm1.ne
  have d0 := hm1.map.c0
  have hm := mod_lt hC1 x
  have hlt : x % C1 < cs.size := by omega
  have hi := hb.cell (x % C1)
  rw [Array.getElem?_eq_getElem hlt] at hi
  have hfr := hb.free (x % C1)
  have b2 := (hm1.blk.drew).far (p := ⟨g1, x % C1, none⟩) hrg (.int .i64 t)
  have r2 := (hb.drew).put (x % C1) (.int .i64 t)
  have ht2 := (Touch.refl (· = g1) w1).drew.setCell (p := ⟨g1, x % C1, none⟩) (fun _ => rfl) (.int .i64 t)
  have HX := Lib.hid (index_any r g1 C1 x w1.drew d0 hC1)
  have hlaw := fun cs3 h => before_row (t := t) (cs3 := cs3) hC1 hs hrow h1 (by omega) hbe h
  obtain ⟨cs2, hcs2⟩ : ∃ cs2, cs.setIfInBounds (x % C1) (.int .i64 t) = cs2 := ⟨_, rfl⟩
  have hs2 : cs2.size = C1 := by rw [← hcs2]; simpa using hs
  obtain ⟨m, hmm⟩ : ∃ m, x % C1 = m := ⟨_, rfl⟩
  obtain ⟨u, hu⟩ : ∃ u, cs[x % C1] = u := ⟨_, rfl⟩
  rw [hu] at hi
  rw [hcs2] at r2 hlaw
  rw [hmm] at hi hfr hm HX b2 r2 ht2
  obtain ⟨W, hW1, hW⟩ : ∃ W, w1.drew.setCell ⟨g1, m, none⟩ (.int .i64 t) = W ∧ (w1.setCell ⟨g1, m, none⟩ (.int .i64 t)).drew = W := ⟨_, rfl, rfl⟩
  rw [hW1] at b2 r2 ht2
  have e0 := b2.cell 0
  have e1 := b2.cell 1
  simp [recC, rowV] at e0 e1
  have hwp := wipe_any r g1 C1 (x + 1) b cs2 W (by rw [b2.cell 0]; simp [recC, rowV]) hC1 r2 hs2 hrg (by omega) (by omega)
  rw [show ((x + 1 : Nat) : Int) = (x : Int) + 1 by omega] at hwp
  have HWP := Lib.hid hwp
  have HLAW := Lib.hid hlaw
  have HB2 := Lib.hid b2
  have HR2 := Lib.hid r2
  have HT2 := Lib.hid ht2
  have HT1 := Lib.hid ht1
  have HG1 := Lib.hid hg1
  have HW := Lib.hid hW
  have HS2 := Lib.hid hs2
  have HC1 := Lib.hid hC1
  have HMM := Lib.hid hmm
  have HNC := Lib.hid hnC
  clear hwp hW1 hm1 hb hs hrow hlt hu hcs2 hmm b2 r2 ht2 hlaw ht1 hg1 hW hs2 hC1 hnx hnC hn
  go_upto_region 11 with fail
  go_region_law (go_simp; go_at_call 96; refine HX.out.mono ?_; rintro e w' ⟨rfl, rfl⟩)
  all_goals rw [HW.out]
  all_goals go_wp2_with fail
  all_goals refine HWP.out.mono ?_
  all_goals rintro v w3 ⟨rfl, cs3, hwi, hb3, ht3⟩
  all_goals have b3 := HB2.out.touch ht3 hrg
  all_goals have f1 := b3.free 1
  all_goals have e1 := b3.cell 1
  all_goals simp [recC, rowV] at e1
  all_goals have HB3 := Lib.hid hb3
  all_goals have BB3 := Lib.hid b3
  all_goals have HT3 := Lib.hid ht3
  all_goals have HWI := Lib.hid hwi
  all_goals clear b3 hb3 ht3 hwi
  all_goals go_wp2_with fail
  all_goals refine bodyPost_ret (results_none rfl _ _ _) rfl ⟨rfl, g1, C1, ?_, HG1.out, ?_⟩
  all_goals have hn1 := HN.out
  all_goals have hn2 := HNC.out
  all_goals have hl := HLAW.out cs3 HWI.out
  · rw [Nat.min_eq_right (by omega), Nat.max_eq_left (by omega)]
    exact .of HC1.out (by have := BB3.out.put 1 (.int .i64 (x : Int)); rwa [put1C] at this) (by omega) (by omega) hsm (HB3.out.far (p := ⟨r, 1, none⟩) hrg.symm _) hl.1 hl.2
  · exact (touch3 HT1.out HT2.out HT3.out HG1.out).setCell (p := ⟨r, 1, none⟩) (fun _ => .inl rfl) _
  · rw [Nat.min_eq_right (by omega), Nat.max_eq_left (by omega)]
    exact .of HC1.out (by have := BB3.out.put 1 (.int .i64 (x : Int)); rwa [put1C] at this) (by omega) (by omega) hsm (HB3.out.far (p := ⟨r, 1, none⟩) hrg.symm _) hl.1 hl.2
  · exact (touch3 HT1.out HT2.out HT3.out HG1.out).setCell (p := ⟨r, 1, none⟩) (fun _ => .inl rfl) _

set_option maxHeartbeats 4000000 in
set_option maxRecDepth 1000000 in
theorem add_after (r g C b e x : Nat) (f : Nat → Int) (t : Int) (rest : List Value) (w : World) (hM : Mp w r g C b e f rest) (h1 : e ≤ x) (h2 : x + 1 ≤ b + 256) (h3 : x < 4611686018427387000) :
    Calls Try.prog 81 #[.pointer (some ⟨r, 0, none⟩), .int .i64 (x : Int), .int .i64 t] w fun v w' => v = .returned (.tuple #[]) ∧ Added w w' r g b e x f t rest := by
  have c0 := hM.map.c0
  have c1 := hM.map.c1
  have c2 := hM.map.c2
  have hsm := hM.small
  have hbe := hM.be
  have hq := eqlRow g C
  obtain ⟨n, hnx⟩ : ∃ n, x + 1 - b = n := ⟨_, rfl⟩
  have hn256 : n ≤ 256 := by omega
  have hni : (x : Int) + 1 - (b : Int) = (n : Int) := by omega
  have HM := Lib.hid hM
  have HN := Lib.hid hnx
  clear hM hnx
  go_enter Try.func81, Try.ntmps81
  go_wp2_with fail
  refine (adjust_any r g C b e n f rest _ HM.out hn256 (by have := HN.out; omega)).mono ?_
  rintro v w1 ⟨rfl, g1, C1, hnC, hm1, hg1, ht1⟩
  have hnx := HN.out
  have hC1 := hm1.cap
  obtain ⟨cs, hb, hs, hrow⟩ := hm1.row
  have hrg := hm1.ne
  have d0 := hm1.map.c0
  have d2 := hm1.map.c2
  have HWP := Lib.hid (wipe_any r g1 C1 e x cs w1 d0 hC1 hb hs hrg h1 (by omega))
  have hlaw := fun cs2 h => after_row (t := t) (cs2 := cs2) hC1 hrow h1 (by omega) h
  have HLAW := Lib.hid hlaw
  have HM1 := Lib.hid hm1
  have HT1 := Lib.hid ht1
  have HG1 := Lib.hid hg1
  have HC1 := Lib.hid hC1
  have HNC := Lib.hid hnC
  clear hm1 hb hs hrow hlaw ht1 hg1 hC1 hnx hnC
  go_wp2_with fail
  refine HWP.out.mono ?_
  rintro v w2 ⟨rfl, cs2, hwi, hb2, ht2⟩
  have b2 := HM1.out.blk.touch ht2 hrg
  have f2 := b2.free 2
  have e2 := b2.cell 2
  simp [recC] at e2
  have b3 := b2.put 2 (.int .i64 ((x : Int) + 1))
  rw [put2C _ _ _ (x + 1) _ _ (by omega)] at b3
  have r3 := hb2.far (p := ⟨r, 2, none⟩) hrg.symm (.int .i64 ((x : Int) + 1))
  obtain ⟨W, hW⟩ : ∃ W, w2.setCell ⟨r, 2, none⟩ (.int .i64 ((x : Int) + 1)) = W := ⟨_, rfl⟩
  have ht3 : Touch (fun k => k = r ∨ k = g) w W := by
    rw [← hW]
    exact (touch3 HT1.out (Touch.refl (· = g1) w1) ht2 HG1.out).setCell (p := ⟨r, 2, none⟩) (fun _ => .inl rfl) _
  rw [hW] at b3 r3
  have i0 := b3.cell 0
  simp [recC, rowV] at i0
  have hm := mod_lt HC1.out x
  have hlt : x % C1 < cs2.size := by have := hwi.1; omega
  have hi := r3.cell (x % C1)
  rw [Array.getElem?_eq_getElem hlt] at hi
  have hfr := r3.free (x % C1)
  have hl := HLAW.out cs2 hwi
  have hfin : Added w (W.drew.setCell ⟨g1, x % C1, none⟩ (.int .i64 t)) r g b e x f t rest := by
    have hn1 := HN.out
    have hn2 := HNC.out
    refine ⟨g1, C1, ?_, HG1.out, ht3.drew.setCell (p := ⟨g1, x % C1, none⟩) (fun h => ?_) _⟩
    · rw [Nat.min_eq_left (by omega), Nat.max_eq_right (by omega)]
      exact .of HC1.out ((b3.drew).far (p := ⟨g1, x % C1, none⟩) hrg _) (by omega) (by omega) (by omega) ((r3.drew).put (x % C1) _) hl.1 hl.2
    · have := HG1.out
      right
      simp only at h ⊢
      omega
  have HX := Lib.hid (index_any r g1 C1 x W.drew i0 HC1.out)
  obtain ⟨m, hmm⟩ : ∃ m, x % C1 = m := ⟨_, rfl⟩
  obtain ⟨u, hu⟩ : ∃ u, cs2[x % C1] = u := ⟨_, rfl⟩
  rw [hu] at hi
  rw [hmm] at hi hfr hm HX hfin
  have HF := Lib.hid hfin
  have HW := Lib.hid hW
  clear hwi hb2 ht2 b2 b3 r3 hW ht3 hlt hu hmm hl hfin
  go_upto_region 24 with fail
  rw [HW.out]
  go_region_law (go_simp; go_at_call 96; refine HX.out.mono ?_; rintro e w' ⟨rfl, rfl⟩)
  all_goals go_wp2_with fail
  all_goals go_end0
  all_goals exact ⟨rfl, HF.out⟩

theorem add_any (r g C b e x : Nat) (f : Nat → Int) (t : Int) (rest : List Value) (w : World) (hM : Mp w r g C b e f rest) (h2 : max e (x + 1) ≤ min b x + 256) (h3 : x < 4611686018427387000) :
    Calls Try.prog 81 #[.pointer (some ⟨r, 0, none⟩), .int .i64 (x : Int), .int .i64 t] w fun v w' => v = .returned (.tuple #[]) ∧ Added w w' r g b e x f t rest := by
  rcases Nat.lt_or_ge x b with h | h
  · exact add_before r g C b e x f t rest w hM h (by omega)
  · rcases Nat.lt_or_ge x e with h' | h'
    · exact add_in r g C b e x f t rest w hM h h'
    · exact add_after r g C b e x f t rest w hM h' (by omega) h3
end Go.Proofs.Ytlkmmkphpiamcaa
