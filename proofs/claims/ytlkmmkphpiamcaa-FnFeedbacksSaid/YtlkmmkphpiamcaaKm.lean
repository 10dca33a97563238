/-
  A chunk of feedback: put into a report (encode), by its four ways. Condition: the chunk lies in its feedback's block. By an AI agent.
-/
import Derived.Test.YtlkmmkphpiamcaaKl
namespace Go.Proofs.Ytlkmmkphpiamcaa
open Go.RowKit
/-- A region that ends, and does not panic. -/
def OnlyN (Q : Exit → Act → World → Prop) : Exit → Act → World → Prop := fun e a w => match e with
  | .normal => Q .normal a w
  | _ => False
theorem wp_onlyN {P : Program} {c : Code} {Q : Exit → Act → World → Prop} {a : Act} {w : World} (h : c.wp P (OnlyN Q) a w) : c.wp P Q a w :=
  Code.wp_mono (fun e a w h => by cases e <;> first | exact h | exact h.elim) h

set_option maxRecDepth 1000000 in
set_option maxHeartbeats 1000000 in
theorem encode_run (k n c : Nat) (ad : Addr) (d0 : Nat) (f : FB) (w : World) (hB : Blk w k 202 f.cells) (hv : f.v = .slice (some ad) n c) (hd : f.hd = false) (hn1 : 0 < n) (hn : n ≤ 8191) (hu : w.cell? ad = some (.int .u16 (d0 : Int))) :
    Calls Try.prog 104 #[.pointer (some ⟨k, 7, none⟩)] w fun e w' => e = .returned (.iface 188 (.pointer (some ⟨w.heap.size, 0, none⟩))) ∧ w' = emptied k (w.alloc (.cells #[.nilIface, .int .u16 0, .int .u16 (d0 : Int), .int .u16 (n : Int)] 190)).drew := by
  have c8 := hB.cell 8
  have c9 := hB.cell 9
  simp [FB.cells, hd] at c8
  simp [FB.cells, hv] at c9
  obtain ⟨N, hN⟩ : ∃ N : Int, (n : Int) = N := ⟨_, rfl⟩
  have hn8 : N ≤ 8191 := by omega
  have hn0 : 0 < N := by omega
  have hwr : IntKind.u16.wrap N = N := by rw [IntKind.wrap_u16]; omega
  have HR := Lib.hid (reset_ch k f (w.alloc (.cells #[.nilIface, .int .u16 0, .int .u16 (d0 : Int), .int .u16 N] 190)).drew (hB.alloc _).drew)
  clear hn hn1
  have hcc : Try.prog.concrete 188 = true := by kernel_rfl
  have HB := Lib.hid hB
  clear hB hv hd
  go_enter_defers Try.func104, Try.ntmps104
  go_upto_region 3 with fail
  refine wp_onlyN ?_
  go_region_law fail
  all_goals simp only [OnlyN]
  all_goals go_wp2_with fail
  all_goals refine leaves_cons (fv := .func 112) (cap := #[]) (dargs := #[.pointer (some ⟨k, 7, none⟩)]) (ds := []) (f := 112) (args := #[.pointer (some ⟨k, 7, none⟩)]) (by simp) (by simp [go_sem]) ?_
  all_goals refine HR.out.mono ?_
  all_goals rintro e u' w' ⟨rfl, rfl, rfl⟩
  all_goals refine ⟨.iface 188 (.pointer (some ⟨w.heap.size, 0, none⟩)), ?_, rfl, by rw [hN]⟩
  all_goals exact results_tmp (t := 2) rfl _ _ _

set_option maxRecDepth 1000000 in
set_option maxHeartbeats 1000000 in
theorem encode_whole (k c : Nat) (ad : Addr) (f : FB) (w : World) (hB : Blk w k 202 f.cells) (hv : f.v = .slice (some ad) 14 c) (hd : f.hd = true) :
    Calls Try.prog 104 #[.pointer (some ⟨k, 7, none⟩)] w fun e w' => e = .returned (.iface 191 (.pointer (some ⟨w.heap.size, 0, none⟩))) ∧ w' = emptied k (w.alloc (.cells #[.nilIface, .int .u16 0, .int .u16 0, .slice (some ad) 14 c] 193)) := by
  have c8 := hB.cell 8
  have c9 := hB.cell 9
  simp [FB.cells, hd] at c8
  simp [FB.cells, hv] at c9
  have HR := Lib.hid (reset_ch k f (w.alloc (.cells #[.nilIface, .int .u16 0, .int .u16 0, .slice (some ad) 14 c] 193)) (hB.alloc _))
  have hcc : Try.prog.concrete 191 = true := by kernel_rfl
  clear hB hv hd
  go_enter_defers Try.func104, Try.ntmps104
  go_wp2_with fail
  refine leaves_cons (fv := .func 112) (cap := #[]) (dargs := #[.pointer (some ⟨k, 7, none⟩)]) (ds := []) (f := 112) (args := #[.pointer (some ⟨k, 7, none⟩)]) (by simp) (by simp [go_sem]) ?_
  refine HR.out.mono ?_
  rintro e u' w' ⟨rfl, rfl, rfl⟩
  refine ⟨.iface 191 (.pointer (some ⟨w.heap.size, 0, none⟩)), ?_, rfl, rfl⟩
  exact results_tmp (t := 2) rfl _ _ _

/-- A cut. -/
def cutV (g off n c m : Nat) : Value := .slice (if c = m then some ⟨g, off, none⟩ else some ⟨g, off + m, none⟩) (n - m) (c - m)
def cutW (k : Nat) (W : World) (v : Value) : World := ((W.setCell ⟨k, 9, none⟩ v).setCell ⟨k, 8, none⟩ (.bool false)).setCell ⟨k, 7, none⟩ (.bool false)

set_option maxRecDepth 1000000 in
set_option maxHeartbeats 1000000 in
theorem encode_few (k n g off c : Nat) (f : FB) (w : World) (hB : Blk w k 202 f.cells) (hv : f.v = .slice (some ⟨g, off, none⟩) n c) (hd : f.hd = true) (hn : n < 7) (hn1 : 0 < n) (hc : n ≤ c) :
    Calls Try.prog 104 #[.pointer (some ⟨k, 7, none⟩)] w fun e w' => e = .returned (.iface 191 (.pointer (some ⟨w.heap.size, 0, none⟩))) ∧
      w' = cutW k (w.alloc (.cells #[.nilIface, .int .u16 0, .int .u16 1, .slice (some ⟨g, off, none⟩) n c] 193)) (cutV g off n c n) := by
  have c8 := hB.cell 8
  have c9 := hB.cell 9
  simp [FB.cells, hd] at c8
  simp [FB.cells, hv] at c9
  have hcc : Try.prog.concrete 191 = true := by kernel_rfl
  have hB1 := hB.alloc (.cells #[.nilIface, .int .u16 0, .int .u16 1, .slice (some ⟨g, off, none⟩) n c] 193)
  obtain ⟨W, hW⟩ : ∃ W, w.alloc (.cells #[.nilIface, .int .u16 0, .int .u16 1, .slice (some ⟨g, off, none⟩) n c] 193) = W := ⟨_, rfl⟩
  rw [hW] at hB1 ⊢
  have f7 := hB1.free 7
  have f8 := hB1.free 8
  have f9 := hB1.free 9
  have d7 := hB1.cell 7
  have d8 := hB1.cell 8
  have d9 := hB1.cell 9
  simp [FB.cells] at d7
  simp [FB.cells, hd] at d8
  simp [FB.cells, hv] at d9
  have HW := Lib.hid hW
  have h14 : ¬ n = 14 := by omega
  clear hB hv hd hB1 hW
  go_enter_defers Try.func104, Try.ntmps104
  go_upto_region 9 with fail
  rw [HW.out]
  go_wp2_with fail
  all_goals refine ⟨_, results_tmp (t := 2) rfl _ _ _, rfl, ?_⟩
  all_goals simp [cutW, cutV, *]

set_option maxRecDepth 1000000 in
set_option maxHeartbeats 1000000 in
theorem encode_seven (k g off c : Nat) (f : FB) (w : World) (hB : Blk w k 202 f.cells) (hv : f.v = .slice (some ⟨g, off, none⟩) 7 c) (hd : f.hd = true) (hc : 7 ≤ c) :
    Calls Try.prog 104 #[.pointer (some ⟨k, 7, none⟩)] w fun e w' => e = .returned (.iface 191 (.pointer (some ⟨w.heap.size, 0, none⟩))) ∧
      w' = cutW k (w.alloc (.cells #[.nilIface, .int .u16 0, .int .u16 1, .slice (some ⟨g, off, none⟩) 7 c] 193)) (cutV g off 7 c 7) := by
  have c8 := hB.cell 8
  have c9 := hB.cell 9
  simp [FB.cells, hd] at c8
  simp [FB.cells, hv] at c9
  have hcc : Try.prog.concrete 191 = true := by kernel_rfl
  have hB1 := hB.alloc (.cells #[.nilIface, .int .u16 0, .int .u16 1, .slice (some ⟨g, off, none⟩) 7 c] 193)
  obtain ⟨W, hW⟩ : ∃ W, w.alloc (.cells #[.nilIface, .int .u16 0, .int .u16 1, .slice (some ⟨g, off, none⟩) 7 c] 193) = W := ⟨_, rfl⟩
  rw [hW] at hB1 ⊢
  have f7 := hB1.free 7
  have f8 := hB1.free 8
  have f9 := hB1.free 9
  have d7 := hB1.cell 7
  have d8 := hB1.cell 8
  have d9 := hB1.cell 9
  simp [FB.cells] at d7
  simp [FB.cells, hd] at d8
  simp [FB.cells, hv] at d9
  have HW := Lib.hid hW
  clear hB hv hd hB1 hW
  go_enter_defers Try.func104, Try.ntmps104
  go_upto_region 9 with fail
  rw [HW.out]
  go_wp2_with fail
  all_goals refine ⟨_, results_tmp (t := 2) rfl _ _ _, rfl, ?_⟩
  all_goals simp [cutW, cutV, *]

section
variable {w : World} {k : Nat} {f : FB} {v : Value} {hl hd : Bool}
theorem Blk.put7 (h : Blk w k 202 { f with v := v, hl := hl, hd := hd }.cells) (b : Bool) : Blk (w.setCell ⟨k, 7, none⟩ (.bool b)) k 202 { f with v := v, hl := b, hd := hd }.cells := by
  have h1 := h.put 7 (.bool b)
  simpa [FB.cells] using h1
theorem Blk.put8 (h : Blk w k 202 { f with v := v, hl := hl, hd := hd }.cells) (b : Bool) : Blk (w.setCell ⟨k, 8, none⟩ (.bool b)) k 202 { f with v := v, hl := hl, hd := b }.cells := by
  have h1 := h.put 8 (.bool b)
  simpa [FB.cells] using h1
theorem Blk.cell7 (h : Blk w k 202 { f with v := v, hl := hl, hd := hd }.cells) : w.cell? ⟨k, 7, none⟩ = some (.bool hl) := by
  have h1 := h.cell 7
  simpa [FB.cells] using h1
theorem Blk.cell8 (h : Blk w k 202 { f with v := v, hl := hl, hd := hd }.cells) : w.cell? ⟨k, 8, none⟩ = some (.bool hd) := by
  have h1 := h.cell 8
  simpa [FB.cells] using h1
end

set_option maxRecDepth 1000000 in
set_option maxHeartbeats 2000000 in
theorem encode_more (k n g off c : Nat) (f : FB) (es : List Nat) (w : World) (hB : Blk w k 202 f.cells) (hv : f.v = .slice (some ⟨g, off, none⟩) n c) (hd : f.hd = true) (hn : 7 < n) (h14 : ¬ n = 14) (hn2 : n < 4096) (hc : n ≤ c) (hgk : g ≠ k)
    (hes : es.length = n - 7) (hat : ∀ j d : Nat, es[j]? = some d → w.cell? ⟨g, off + 7 + j, none⟩ = some (.int .u16 (d : Int))) (hlt : g < w.heap.size) :
    Calls Try.prog 104 #[.pointer (some ⟨k, 7, none⟩)] w fun e w' => e = .returned (.iface 191 (.pointer (some ⟨w.heap.size, 0, none⟩))) ∧
      ∃ hl' hd', Blk w' k 202 { f with v := .slice (some ⟨g, off + 7, none⟩) (n - 7) (c - 7), hl := hl', hd := hd' }.cells ∧ Touch (· = k) (w.alloc (.cells #[.nilIface, .int .u16 0, .int .u16 1, .slice (some ⟨g, off, none⟩) 7 c] 193)) w' ∧ (hd' = false → ∀ d ∈ es, es[0]? = some d) := by
  have c8 := hB.cell 8
  have c9 := hB.cell 9
  simp [FB.cells, hd] at c8
  simp [FB.cells, hv] at c9
  have hcc : Try.prog.concrete 191 = true := by kernel_rfl
  have hB1 := hB.alloc (.cells #[.nilIface, .int .u16 0, .int .u16 1, .slice (some ⟨g, off, none⟩) 7 c] 193)
  have hat1 : ∀ j d : Nat, es[j]? = some d → (w.alloc (.cells #[.nilIface, .int .u16 0, .int .u16 1, .slice (some ⟨g, off, none⟩) 7 c] 193)).cell? ⟨g, off + 7 + j, none⟩ = some (.int .u16 (d : Int)) :=
    fun j d h => (World.cell?_of_block (a := ⟨g, off + 7 + j, none⟩) (Below.heap_alloc w _ g hlt)).trans (hat j d h)
  obtain ⟨W, hW⟩ : ∃ W, w.alloc (.cells #[.nilIface, .int .u16 0, .int .u16 1, .slice (some ⟨g, off, none⟩) 7 c] 193) = W := ⟨_, rfl⟩
  rw [hW] at hB1 hat1 ⊢
  have f7 := hB1.free 7
  have f8 := hB1.free 8
  have f9 := hB1.free 9
  have d7 := hB1.cell 7
  have d8 := hB1.cell 8
  have d9 := hB1.cell 9
  simp [FB.cells] at d7
  simp [FB.cells, hd] at d8
  simp [FB.cells, hv] at d9
  obtain ⟨v, hvv⟩ : ∃ v, Value.slice (some ⟨g, off + 7, none⟩) (n - 7) (c - 7) = v := ⟨_, rfl⟩
  have b3 : Blk (cutW k W v) k 202 { f with v := v, hl := false, hd := false }.cells := by
    have h := ((hB1.put 9 v).put 8 (.bool false)).put 7 (.bool false)
    simpa [FB.cells, cutW] using h
  have t3 : Touch (· = k) W (cutW k W v) := (((Touch.refl (· = k) W).setCell (p := ⟨k, 9, none⟩) (fun _ => rfl) _).setCell (p := ⟨k, 8, none⟩) (fun _ => rfl) _).setCell (p := ⟨k, 7, none⟩) (fun _ => rfl) _
  have hgW : g < W.heap.size := by rw [← hW]; simp; omega
  have hat3 : ∀ j d : Nat, es[j]? = some d → (cutW k W v).cell? ⟨g, off + 7 + j, none⟩ = some (.int .u16 (d : Int)) := fun j d h => (t3.cell (p := ⟨g, off + 7 + j, none⟩) hgW hgk).trans (hat1 j d h)
  obtain ⟨V, hV⟩ : ∃ V, cutW k W v = V := ⟨_, rfl⟩
  rw [hV] at b3 t3 hat3
  have HW := Lib.hid hW
  have HV := Lib.hid hV
  have B3 := Lib.hid b3
  have T3 := Lib.hid t3
  have AT3 := Lib.hid hat3
  have HES := Lib.hid hes
  have HVV := Lib.hid hvv
  have hn7 : (7 : Int) < (n : Int) := by omega
  clear hB hv hd hB1 hW hat hat1 hV t3 hat3 hes hvv
  go_enter_defers Try.func104, Try.ntmps104
  go_upto_region 9 with fail
  rw [HW.out]
  go_upto_region 12 with fail
  have hWV : (((W.setCell ⟨k, 9, none⟩ (.slice (some ⟨g, off + 7, none⟩) (n - 7) (c - 7))).setCell ⟨k, 8, none⟩ (.bool false)).setCell ⟨k, 7, none⟩ (.bool false)) = V := by
    rw [HVV.out]
    exact HV.out
  rw [hWV]
  clear hWV d7 d8 d9 f7 f8 f9 c8 c9
  obtain ⟨m, hm⟩ : ∃ m, n - 7 = m := ⟨_, rfl⟩
  obtain ⟨c', hc'⟩ : ∃ c', c - 7 = c' := ⟨_, rfl⟩
  have hm0 : 0 < m := by omega
  have hm1 : m < 4096 := by omega
  have hvv := HVV.out
  have hes := HES.out
  rw [hm, hc'] at hvv
  rw [hm] at hes
  rw [hm, hc']
  have hlen0 : 0 < es.length := by omega
  obtain ⟨d0, hd0⟩ : ∃ d0, es[0]? = some d0 := ⟨_, List.getElem?_eq_getElem hlen0⟩
  have x9 := b3.cell 9
  simp [FB.cells, ← hvv] at x9
  have x0 := AT3.out 0 d0 hd0
  simp only [Nat.add_zero] at x0
  have HD0 := Lib.hid hd0
  have HES2 := Lib.hid hes
  have HV2 := Lib.hid hvv
  clear b3 hd0 hes hvv hm hc' hlen0 HES HV HW
  go_wp2_with fail
  go_loopw [89] (fun i wr => ∃ (j : Nat) (hl' hd' : Bool), i = .int .i64 (j : Int) ∧ j ≤ m ∧ wr.cell? ⟨k, 7, none⟩ = some (.bool hl') ∧ wr.cell? ⟨k, 8, none⟩ = some (.bool hd') ∧ Hid (Blk wr k 202 { f with v := v, hl := hl', hd := hd' }.cells ∧ Touch (· = k) V wr ∧ (hd' = false → ∀ q d : Nat, q < j → es[q]? = some d → d = d0))) (fun i _ => m - (intOf i).toNat)
  case atStart =>
    have e7 := B3.out.cell 7
    have e8 := B3.out.cell 8
    simp [FB.cells] at e7 e8
    exact ⟨0, false, false, rfl, by omega, e7, e8, B3.out, Touch.refl _ _, fun _ q d h => by omega⟩
  case round =>
    obtain ⟨j, hl', hd', rfl, hjm, e7, e8, hinv⟩ := hrel
    have g7 := hinv.out.1.free 7
    have g8 := hinv.out.1.free 8
    by_cases hlt2 : j < m
    · obtain ⟨d, hd⟩ : ∃ d, es[j]? = some d := ⟨_, List.getElem?_eq_getElem (by have := HES2.out; omega)⟩
      have hj := (hinv.out.2.1.cell (p := ⟨g, off + 7 + j, none⟩) (by have := T3.out.size; simp only; omega) hgk).trans (AT3.out j d hd)
      have hjw : wrap64 ((j : Int) + 1) = ((j + 1 : Nat) : Int) := by unfold wrap64; omega
      have hstep : ∀ hl2 hd2 : Bool, (hd2 = false → hd' = false ∧ d = d0) → ∀ W2, Blk W2 k 202 { f with v := v, hl := hl2, hd := hd2 }.cells → Touch (· = k) V W2 →
          Hid (Blk W2 k 202 { f with v := v, hl := hl2, hd := hd2 }.cells ∧ Touch (· = k) V W2 ∧ (hd2 = false → ∀ q d : Nat, q < j + 1 → es[q]? = some d → d = d0)) := by
        intro hl2 hd2 hh W2 h1 h2
        refine ⟨h1, h2, fun h q d' hq hqd => ?_⟩
        obtain ⟨h3, h4⟩ := hh h
        rcases Nat.lt_or_ge q j with h5 | h5
        · exact hinv.out.2.2 h3 q d' h5 hqd
        · obtain rfl : q = j := by omega
          rw [hd] at hqd
          injection hqd with hqd
          omega
      have HS := Lib.hid hstep
      have HJ := Lib.hid hd
      clear hstep hd
      by_cases hdd : (d0 : Int) = (d : Int)
      · by_cases hd2 : (d : Int) = 2
        · go_wp2_with fail
          have B2 := hinv.out.1.put7 true
          exact ⟨⟨j + 1, true, hd', by go_num, by omega, B2.cell7, B2.cell8, HS.out true hd' (fun h => ⟨h, by omega⟩) _ B2 (hinv.out.2.1.setCell (p := ⟨k, 7, none⟩) (fun _ => rfl) _)⟩, by simp [intOf]; omega⟩
        · go_wp2_with fail
          exact ⟨⟨j + 1, hl', hd', by go_num, by omega, e7, e8, HS.out hl' hd' (fun h => ⟨h, by omega⟩) _ hinv.out.1 hinv.out.2.1⟩, by simp [intOf]; omega⟩
      · by_cases hd2 : (d : Int) = 2
        · go_wp2_with fail
          have B2 := (hinv.out.1.put8 true).put7 true
          exact ⟨⟨j + 1, true, true, by go_num, by omega, B2.cell7, B2.cell8, HS.out true true (fun h => by cases h) _ B2 ((hinv.out.2.1.setCell (p := ⟨k, 8, none⟩) (fun _ => rfl) _).setCell (p := ⟨k, 7, none⟩) (fun _ => rfl) _)⟩, by simp [intOf]; omega⟩
        · go_wp2_with fail
          have B2 := hinv.out.1.put8 true
          exact ⟨⟨j + 1, hl', true, by go_num, by omega, B2.cell7, B2.cell8, HS.out hl' true (fun h => by cases h) _ B2 (hinv.out.2.1.setCell (p := ⟨k, 8, none⟩) (fun _ => rfl) _)⟩, by simp [intOf]; omega⟩
    · obtain rfl : j = m := by omega
      go_wp2_with fail
      refine ⟨_, results_tmp (t := 2) rfl _ _ _, rfl, hl', hd', ?_, T3.out.trans hinv.out.2.1 fun _ _ h => h, fun h d hd => ?_⟩
      · rw [HVV.out]
        exact hinv.out.1
      · obtain ⟨q, hq, hqd⟩ := List.getElem_of_mem hd
        have := hinv.out.2.2 h q d (by have := HES2.out; omega) (by rw [List.getElem?_eq_getElem hq, hqd])
        rw [this]
        exact HD0.out
end Go.Proofs.Ytlkmmkphpiamcaa
