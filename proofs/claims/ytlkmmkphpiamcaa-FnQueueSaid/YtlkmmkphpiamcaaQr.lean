/-
  A slice of calls that came in reads as a list. No condition. By an AI agent.
-/
import Derived.Test.YtlkmmkphpiamcaaS
import Derived.Test.YtlkmmkphpiamcaaQo
import Derived.Deep.Slices
import Derived.Deep.Fields
import Derived.ChangeSame
namespace Go.Proofs.Ytlkmmkphpiamcaa
open Go.ChangeShapes Go.WideShapes Go.Deep Go.RowKit

section
variable {H : Type} {enc : TypeId × Value → H} {P : Program} {w : World} {base : Nat} {spare : Nat → Bool} {held : Bool}
/-- A slice of structs of fields of one cell each. -/
theorem open_fields {t e : TypeId} {fs : Array Field} {fuel : Nat} {cs : List Value} {x : DataW H × List MemPlace} (ht : P.underlying t = some (.slice e)) (he : P.underlying e = some (.struct fs))
    (hone : oneCellFields P fs = true) (hC : P.cellsOf e = fs.size) (h : DataW.trod enc P w base spare held fuel t cs = some x) :
    cs = [.slice none 0 0] ∨
    ∃ (a : Addr) (len cap m : Nat), cs = [.slice (some a) len cap] ∧ len ≤ cap ∧ cap ≤ maxLen ∧ m = (if spare a.block then cap else len) ∧
      ∀ i, i < m → ∀ (j : Nat) (f : Field), fs[j]? = some f → ∃ (v : Value) (y : DataW H × List MemPlace) (n : Nat), w.cell? (a.add (i * fs.size + j)) = some v ∧ DataW.trod enc P w base spare held n f.type [v] = some y := by
  rcases open_slice ht h with h0 | ⟨a, len, cap, m, n, D, Pl, hcs, hb, hl, hm, hmm, hx, hi⟩
  · exact .inl h0.1
  · refine .inr ⟨a, len, cap, m, hcs, hl, hm, hmm, fun i him j f hj => ?_⟩
    obtain ⟨cs', hc, ht'⟩ := hi i him
    rw [hC] at hc
    obtain ⟨ys, n', hn', hy, hlen, hyl, hf⟩ := DataW.trod_struct he ht'
    obtain ⟨_, hcl, hat⟩ := World.cells?_some hc
    obtain ⟨ho, hk⟩ := hone_of hone j f hj
    have hjl : j < fs.size := (Array.getElem?_eq_some_iff.1 hj).1
    have hcell := hat j hjl
    have hv : cs'[j]? = some (cs'[j]'(by omega)) := List.getElem?_eq_getElem (by omega)
    have h1 := hf j f hj
    rw [ho, hk] at h1
    have hone' : (cs'.drop j).take 1 = [cs'[j]'(by omega)] := by
      rw [List.drop_eq_getElem_cons (by omega)]
      rfl
    rw [hone'] at h1
    have hys : ys[j]? = some (ys[j]'(by omega)) := List.getElem?_eq_getElem (by omega)
    refine ⟨_, _, _, ?_, h1.trans hys⟩
    rw [← Go.Deep.add_add, hcell, hv]
end

theorem open_raws {H : Type} {enc : TypeId × Value → H} {w : World} {fuel : Nat} {cs : List Value} {x : DataW H × List MemPlace}
    (h : DataW.trod enc Try.prog w 0 (fun _ => true) true fuel 42 cs = some x) :
    ∃ A len cap ts, cs = [.slice A len cap] ∧ len ≤ 9223372036854775807 ∧ RawsAt w w.heap.size A len ts ∧ ∀ t ∈ ts, t.seq ≤ 65535 ∧ t.time ≤ 4294967295 := by
  rcases open_fields Try.underlying42 Try.underlying45 (by kernel_rfl) (by kernel_rfl) h with rfl | ⟨a, len, cap, m, rfl, hl, hm, hmm, hi⟩
  · exact ⟨none, 0, 0, [], rfl, by omega, ⟨rfl, fun h => by omega⟩, by simp⟩
  · simp only [if_true] at hmm
    subst hmm
    have key : ∀ i, ∃ t : Raw, i < len → t.seq ≤ 65535 ∧ t.time ≤ 4294967295 ∧ w.cell? (a.add (i * 3)) = some (.int .i64 t.what) ∧ w.cell? (a.add (i * 3 + 1)) = some (.int .u16 t.seq) ∧ w.cell? (a.add (i * 3 + 2)) = some (.int .u32 t.time) := by
      intro i
      by_cases hlt : i < len
      · obtain ⟨v0, y0, n0, c0, t0⟩ := hi i (by omega) 0 _ rfl
        obtain ⟨v1, y1, n1, c1, t1⟩ := hi i (by omega) 1 _ rfl
        obtain ⟨v2, y2, n2, c2, t2⟩ := hi i (by omega) 2 _ rfl
        obtain ⟨z0, e0, _, w0⟩ := DataW.trod_int Try.underlying3 t0
        obtain ⟨z1, e1, _, w1⟩ := DataW.trod_int Try.underlying33 t1
        obtain ⟨z2, e2, _, w2⟩ := DataW.trod_int Try.underlying43 t2
        simp only [List.cons.injEq, and_true] at e0 e1 e2
        subst e0 e1 e2
        have q1 := wf_u16 w1
        have q2 := wf_u32 w2
        refine ⟨⟨z0, z1.toNat, z2.toNat⟩, fun _ => ⟨by show z1.toNat ≤ _; omega, by show z2.toNat ≤ _; omega, c0, ?_, ?_⟩⟩
        · rw [show ((z1.toNat : Nat) : Int) = z1 by omega]; exact c1
        · rw [show ((z2.toNat : Nat) : Int) = z2 by omega]; exact c2
      · exact ⟨⟨0, 0, 0⟩, fun h => absurd h hlt⟩
    obtain ⟨f, hf⟩ := Classical.axiomOfChoice key
    refine ⟨some a, len, m, (List.range len).map f, rfl, by simp only [maxLen] at hm; omega, ⟨by simp, fun hn => ?_⟩, ?_⟩
    · have h0 := (hf 0 hn).2.2.1
      obtain ⟨ga, off, sp⟩ := a
      have hs : sp = none := by simpa [Addr.add] using World.cell?_spot h0
      subst hs
      have hadd : ∀ j, (⟨ga, off, none⟩ : Addr).add j = ⟨ga, off + j, none⟩ := fun j => by unfold Addr.add; split <;> simp_all
      refine ⟨ga, off, rfl, ?_, fun j s hs => ?_⟩
      · have := World.block_lt_of_cell? w _ h0
        rwa [hadd] at this
      · have hj : j < len := by
          have := (List.getElem?_eq_some_iff.1 hs).1
          simpa using this
        have hs' : f j = s := by simpa [hj] using hs
        obtain ⟨_, _, k0, k1, k2⟩ := hf j hj
        rw [hadd, hs'] at k0 k1 k2
        exact ⟨k0, by rw [Nat.add_assoc]; exact k1, by rw [Nat.add_assoc]; exact k2⟩
    · intro t ht
      obtain ⟨i, hi', rfl⟩ := List.mem_map.1 ht
      obtain ⟨h1, h2, _⟩ := hf i (List.mem_range.1 hi')
      exact ⟨h1, h2⟩
end Go.Proofs.Ytlkmmkphpiamcaa
