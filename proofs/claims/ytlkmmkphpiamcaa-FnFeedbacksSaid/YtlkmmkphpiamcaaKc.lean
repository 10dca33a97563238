/-
  The map of arrival times: setNotReceived. Condition: the map's slice and its row lie in their two blocks. By an AI agent.
-/
import Derived.Test.YtlkmmkphpiamcaaKb
namespace Go.Proofs.Ytlkmmkphpiamcaa
open Go.RowKit

def Wiped (C a z : Nat) (cs cs' : Array Value) : Prop :=
  cs'.size = C ∧ (∀ s, a ≤ s → s < z → cs'[s % C]? = some (.int .i64 (-1))) ∧ ∀ i, (∀ s, a ≤ s → s < z → s % C ≠ i) → cs'[i]? = cs[i]?
theorem Wiped.none {C a : Nat} {cs : Array Value} (h : cs.size = C) : Wiped C a a cs cs := ⟨h, fun s h1 h2 => by omega, fun _ _ => rfl⟩
theorem Wiped.snoc {C a k : Nat} {cs cs' : Array Value} (hC : Cap C) (h : Wiped C a k cs cs') (hk : a ≤ k) : Wiped C a (k + 1) cs (cs'.setIfInBounds (k % C) (.int .i64 (-1))) := by
  obtain ⟨h1, h2, h3⟩ := h
  have hlt : k % C < C := by unfold Cap at hC; exact Nat.mod_lt _ (by omega)
  refine ⟨by simpa using h1, fun s hs hsk => ?_, fun i hi => ?_⟩
  · by_cases he : k % C = s % C
    · rw [he, Array.getElem?_setIfInBounds, if_pos rfl, if_pos (by rw [← he, h1]; exact hlt)]
    · rw [Array.getElem?_setIfInBounds, if_neg he]
      refine h2 s hs ?_
      have : s ≠ k := fun e => he (by rw [e])
      omega
  · rw [Array.getElem?_setIfInBounds, if_neg (hi k hk (by omega))]
    exact h3 i fun s hs hsk => hi s hs (by omega)

theorem wipe_any (r g C a z : Nat) (cs : Array Value) (w : World) (h0 : w.cell? ⟨r, 0, none⟩ = some (.slice (some ⟨g, 0, none⟩) C C)) (hC : Cap C)
    (hb : Blk w g 2 cs) (hsz : cs.size = C) (hrg : r ≠ g) (haz : a ≤ z) (hz : z < 4611686018427387904) :
    Calls Try.prog 98 #[.pointer (some ⟨r, 0, none⟩), .int .i64 (a : Int), .int .i64 (z : Int)] w fun x w' => x = .returned (.tuple #[]) ∧ ∃ cs', Wiped C a z cs cs' ∧ Blk w' g 2 cs' ∧ Touch (· = g) w w' := by
  have hrlt : r < w.heap.size := World.block_lt_of_cell? w _ h0
  have HC := Lib.hid hC
  have HB := Lib.hid hb
  have HS := Lib.hid hsz
  have H0 := Lib.hid h0
  clear hC hb hsz h0
  go_enter Try.func98, Try.ntmps98
  go_wp2_with fail
  go_loopw [6] (fun v wr => ∃ k : Nat, v = .int .i64 k ∧ a ≤ k ∧ k ≤ z ∧ Hid (∃ cs', Wiped C a k cs cs' ∧ Blk wr g 2 cs' ∧ Touch (· = g) w wr)) (fun v _ => z - (intOf v).toNat)
  case atStart => exact ⟨a, rfl, Nat.le_refl _, haz, cs, Wiped.none HS.out, HB.out, Touch.refl _ _⟩
  case round =>
    obtain ⟨k, rfl, hak, hkz, hinv⟩ := hrel
    obtain ⟨cs', hw, hb', ht⟩ := hinv.out
    have hkw : wrap64 ((k : Int) + 1) = ((k + 1 : Nat) : Int) := by unfold wrap64; omega
    by_cases hlt : k < z
    · have c0 : wr.cell? ⟨r, 0, none⟩ = some (.slice (some ⟨g, 0, none⟩) C C) := (ht.cell (p := ⟨r, 0, none⟩) hrlt hrg).trans H0.out
      have hm : k % C < C := by have := HC.out; unfold Cap at this; exact Nat.mod_lt _ (by omega)
      have hi := hb'.cell (k % C)
      have hfr := hb'.free (k % C)
      have hlen : k % C < cs'.size := by rw [hw.1]; exact hm
      rw [Array.getElem?_eq_getElem hlen] at hi
      obtain ⟨u, hu⟩ : ∃ u, cs'[k % C] = u := ⟨_, rfl⟩
      rw [hu] at hi
      have hfin : Wiped C a (k + 1) cs (cs'.setIfInBounds (k % C) (.int .i64 (-1))) ∧ Blk (wr.setCell ⟨g, k % C, none⟩ (.int .i64 (-1))) g 2 (cs'.setIfInBounds (k % C) (.int .i64 (-1))) ∧ Touch (· = g) w (wr.setCell ⟨g, k % C, none⟩ (.int .i64 (-1))) :=
        ⟨hw.snoc HC.out hak, hb'.put _ _, ht.setCell (p := ⟨g, k % C, none⟩) (fun _ => rfl) _⟩
      have HI := index_any r g C k
      obtain ⟨m, hmm⟩ : ∃ m, k % C = m := ⟨_, rfl⟩
      rw [hmm] at hi hfr hm HI hfin
      have HX := Lib.hid HI
      have HF := Lib.hid hfin
      clear HI hfin hw hb' ht hinv hlen hu hmm
      go_upto_region 3 with fail
      go_region_law (go_simp; go_at_call 96; refine (HX.out wr.drew c0 HC.out).mono ?_; rintro e w' ⟨rfl, rfl⟩)
      all_goals go_wp2_with fail
      all_goals exact ⟨⟨k + 1, by go_num, by omega, by omega, _, HF.out.1, HF.out.2.1, HF.out.2.2.drew⟩, by simp [intOf]; omega⟩
    · obtain rfl : k = z := by omega
      have HI := Lib.hid hinv
      clear hinv hw hb' ht
      go_wp2_with fail
      go_end0
      exact ⟨rfl, HI.out.out⟩
end Go.Proofs.Ytlkmmkphpiamcaa
