/-
  The map of arrival times: reallocate. Condition: the map lies at the head of its recorder's block. By an AI agent.
-/
import Derived.Test.YtlkmmkphpiamcaaKc
namespace Go.Proofs.Ytlkmmkphpiamcaa
open Go.RowKit

theorem info_i64K : (Try.prog.info? 2).map (fun i => (i.zero, i.size, i.bytes)) = some (some (.int .i64 0), 1, 8) := by kernel_rfl
def zeros64 (m : Nat) : Array Value := (List.replicate m (Value.int .i64 0)).toArray
theorem make_i64 {P : Program} {t e : TypeId} {i : TypeInfo} (ht : P.underlying t = some (.slice e)) (hi : P.info? e = some i) (hz : i.zero = some (.int .i64 0)) (hs : i.size = 1) (hb : i.bytes = 8)
    (m : Nat) (hm : m ≤ 4096) (w : World) :
    (Instr.makeSlice t (.int .i64 (m : Int)) (.int .i64 (m : Int))).run P w = .ok (.slice (some ⟨w.heap.size, 0, none⟩) m m) (w.alloc (.cells (zeros64 m) e)) := by
  have hbm : (i.bytes : Int) * (m : Int) ≤ 281474976710656 := by rw [hb]; omega
  have h := run_make (P := P) w t e i (.int .i64 0) ht hi hz .i64 .i64 m m (by omega) (by omega) hbm (by omega)
  rw [h, hs]
  simp only [Int.toNat_natCast, Nat.mul_one]
  have : madeCells (Value.int .i64 0).cells m = zeros64 m := by
    apply Array.ext'
    have := toList_madeCells_one (.int .i64 0) m
    simpa [zeros64, Value.cells] using this
  rw [this]

/-- The recorder's cells: the map's slice, begin, end, and the rest. -/
def recC (s : Value) (b e : Nat) (rest : List Value) : Array Value := (s :: .int .i64 (b : Int) :: .int .i64 (e : Int) :: rest).toArray
def rowV (g C : Nat) : Value := .slice (some ⟨g, 0, none⟩) C C
structure Mp (w : World) (r g C b e : Nat) (f : Nat → Int) (rest : List Value) : Prop where
  cap : Cap C
  blk : Blk w r 154 (recC (rowV g C) b e rest)
  be : b ≤ e
  room : e ≤ b + C
  small : e < 4611686018427387904
  row : ∃ cs : Array Value, Blk w g 2 cs ∧ cs.size = C ∧ ∀ s, b ≤ s → s < e → cs[s % C]? = some (.int .i64 (f s))
theorem Mp.map {w : World} {r g C b e : Nat} {f : Nat → Int} {rest : List Value} (h : Mp w r g C b e f rest) : MapAt w r g C b e f := by
  have c0 := h.blk.cell 0
  have c1 := h.blk.cell 1
  have c2 := h.blk.cell 2
  simp [recC, rowV] at c0 c1 c2
  exact ⟨h.cap, c0, c1, c2, h.be, h.room, h.small, h.row⟩
theorem Mp.drewN {w : World} {r g C b e : Nat} {f : Nat → Int} {rest : List Value} (h : Mp w r g C b e f rest) (n : Nat) : Mp (w.drewN n) r g C b e f rest := ⟨h.cap, h.blk, h.be, h.room, h.small, h.row⟩
theorem Mp.ne {w : World} {r g C b e : Nat} {f : Nat → Int} {rest : List Value} (h : Mp w r g C b e f rest) : r ≠ g := by
  obtain ⟨cs, hb, _⟩ := h.row
  exact h.blk.unlike hb (by decide)
theorem Mp.touch {w w' : World} {r g C b e : Nat} {f : Nat → Int} {rest : List Value} {S : Nat → Prop} (h : Mp w r g C b e f rest) (ht : Touch S w w') (hr : ¬ S r) (hg : ¬ S g) : Mp w' r g C b e f rest := by
  obtain ⟨cs, hb, h1⟩ := h.row
  exact ⟨h.cap, h.blk.touch ht hr, h.be, h.room, h.small, cs, hb.touch ht hg, h1⟩

/-- What reallocate has copied up to k. -/
def Copied (N b k : Nat) (f : Nat → Int) (cs : Array Value) : Prop := cs.size = N ∧ ∀ s, b ≤ s → s < k → cs[s % N]? = some (.int .i64 (f s))
theorem Copied.snoc {N b k : Nat} {f : Nat → Int} {cs : Array Value} (hN : Cap N) (h : Copied N b k f cs) (hr : k < b + N) : Copied N b (k + 1) f (cs.setIfInBounds (k % N) (.int .i64 (f k))) := by
  obtain ⟨h1, h2⟩ := h
  have hlt : k % N < N := by unfold Cap at hN; exact Nat.mod_lt _ (by omega)
  refine ⟨by simpa using h1, fun s hs hsk => ?_⟩
  by_cases he : s = k
  · subst he
    rw [Array.getElem?_setIfInBounds, if_pos rfl, if_pos (by omega)]
  · have hne : k % N ≠ s % N := by
      unfold Cap at hN
      rcases hN with rfl | rfl <;> omega
    rw [Array.getElem?_setIfInBounds, if_neg hne]
    exact h2 s hs (by omega)
theorem zeros_size (N : Nat) : (zeros64 N).size = N := by simp [zeros64]

theorem realloc_any (r g C b e N : Nat) (f : Nat → Int) (rest : List Value) (w : World) (hM : Mp w r g C b e f rest) (hN : Cap N) (hr : e ≤ b + N) :
    Calls Try.prog 95 #[.pointer (some ⟨r, 0, none⟩), .int .i64 (N : Int)] w fun x w' => x = .returned (.tuple #[]) ∧ Mp w' r w.heap.size N b e f rest ∧ Touch (· = r) w w' := by
  obtain ⟨i0, hi0, hz0, hz1, hz2⟩ := info_parts info_i64K
  have hN' : N ≤ 4096 := by unfold Cap at hN; omega
  have hmk := make_i64 (P := Try.prog) (t := 23) (e := 2) Try.underlying23 hi0 hz0 hz1 hz2 N hN' w
  have hbn := Blk.new w 2 (zeros64 N)
  have hta := (Touch.refl (· = r) w).alloc (.cells (zeros64 N) 2)
  have hM1 := hM.touch ((Touch.refl Nowhere w).alloc (.cells (zeros64 N) 2)) (fun h => h) (fun h => h)
  have hrn : r ≠ w.heap.size := by have := hM.blk.lt; omega
  have hgn : g ≠ w.heap.size := by
    obtain ⟨cs0, hb0, _⟩ := hM.row
    have := hb0.lt
    omega
  generalize hW : w.alloc (.cells (zeros64 N) 2) = W at *
  have c1 := hM1.map.c1
  have c2 := hM1.map.c2
  have hbe := hM1.be
  have hsm := hM1.small
  have HM := Lib.hid hM1
  have HN := Lib.hid hN
  have HB := Lib.hid hbn
  have HT := Lib.hid hta
  have HW := Lib.hid hW
  have HR := Lib.hid hr
  have hgl : w.heap.size < W.heap.size := HB.out.lt
  obtain ⟨q, hq⟩ : ∃ q, w.heap.size = q := ⟨_, rfl⟩
  rw [hq] at hrn hgn hgl HB hmk
  have HQ := Lib.hid hq
  clear hM hN hbn hta hM1 hi0 hz0 hz1 hz2 hN' hr hq
  go_enter Try.func95, Try.ntmps95
  go_wp2_with fail
  go_loopw [5] (fun v wr => ∃ k : Nat, v = .int .i64 k ∧ b ≤ k ∧ k ≤ e ∧ Hid (∃ cs, Copied N b k f cs ∧ Blk wr q 2 cs ∧ Touch (· = q) W wr)) (fun v _ => e - (intOf v).toNat)
  case atStart => exact ⟨b, rfl, Nat.le_refl _, hbe, _, ⟨zeros_size N, fun s h1 h2 => by omega⟩, HB.out, Touch.refl _ _⟩
  case round =>
    obtain ⟨k, rfl, hbk, hke, hinv⟩ := hrel
    obtain ⟨cs, hcp, hb', ht⟩ := hinv.out
    have hmr := HM.out.touch ht (fun h => hrn h) (fun h => hgn h)
    have hkw : wrap64 ((k : Int) + 1) = ((k + 1 : Nat) : Int) := by unfold wrap64; omega
    have d1 := hmr.map.c1
    have d2 := hmr.map.c2
    by_cases hlt : k < e
    · have hmm : k % N < N := by have := HN.out; unfold Cap at this; exact Nat.mod_lt _ (by omega)
      have ha : arr b e f k = f k := if_pos (by omega)
      have hi := hb'.cell (k % N)
      have hfr := hb'.free (k % N)
      have hlen : k % N < cs.size := by rw [hcp.1]; exact hmm
      rw [Array.getElem?_eq_getElem hlen] at hi
      obtain ⟨u, hu⟩ : ∃ u, cs[k % N] = u := ⟨_, rfl⟩
      rw [hu] at hi
      obtain ⟨v, hv⟩ : ∃ v, f k = v := ⟨_, rfl⟩
      have hfin : Copied N b (k + 1) f (cs.setIfInBounds (k % N) (.int .i64 (f k))) ∧ Blk (wr.setCell ⟨q, k % N, none⟩ (.int .i64 (f k))) q 2 (cs.setIfInBounds (k % N) (.int .i64 (f k))) ∧ Touch (· = q) W (wr.setCell ⟨q, k % N, none⟩ (.int .i64 (f k))) :=
        ⟨hcp.snoc HN.out (by have := HR.out; omega), hb'.put _ _, ht.setCell (p := ⟨q, k % N, none⟩) (fun _ => rfl) _⟩
      have hmask : bits .and .i64 (k : Int) (wrap64 ((N : Int) - 1)) = ((k % N : Nat) : Int) := by rw [mask k N HN.out]; omega
      rw [hv] at ha hfin
      obtain ⟨m, hmq⟩ : ∃ m, k % N = m := ⟨_, rfl⟩
      rw [hmq] at hi hfr hmm hmask hfin
      have HA := Lib.hid ha
      have HF := Lib.hid hfin
      have HMR := Lib.hid hmr
      clear ha hfin hmr hcp hb' ht hinv hlen hu hmq hv
      go_wp2_with fail
      refine (get_any r g C b e k f wr HMR.out.map).mono ?_
      rintro x w' ⟨rfl, n, rfl⟩
      rw [HA.out]
      go_wp2_with fail
      obtain ⟨f1, f2, f3⟩ := HF.out
      exact ⟨⟨k + 1, by go_num, by omega, by omega, _, f1, f2.drewN n, f3.drewN n⟩, by simp [intOf]; omega⟩
    · obtain rfl : k = e := by omega
      have d0 := hmr.blk.cell 0
      have f0 := hmr.blk.free 0
      have hp := hmr.blk.put 0 (rowV q N)
      simp [recC] at d0
      have hsv : (recC (rowV g C) b k rest).setIfInBounds 0 (rowV q N) = recC (rowV q N) b k rest := by simp [recC]
      rw [hsv] at hp
      have hfin : Mp (wr.setCell ⟨r, 0, none⟩ (rowV q N)) r q N b k f rest ∧ Touch (· = r) w (wr.setCell ⟨r, 0, none⟩ (rowV q N)) := by
        refine ⟨⟨HN.out, hp, hbe, HR.out, hsm, cs, hb'.far (p := ⟨r, 0, none⟩) (fun h => hrn h.symm) _, hcp⟩, ?_⟩
        have h0 : Touch (· = r) w wr := HT.out.trans ht fun i hi h => by have := HQ.out; omega
        exact h0.setCell (p := ⟨r, 0, none⟩) (fun _ => rfl) _
      have HF := Lib.hid hfin
      clear hfin hmr hcp hb' ht hinv hp hsv
      go_wp2_with fail
      go_end0
      rw [HQ.out]
      exact ⟨rfl, HF.out⟩
end Go.Proofs.Ytlkmmkphpiamcaa
