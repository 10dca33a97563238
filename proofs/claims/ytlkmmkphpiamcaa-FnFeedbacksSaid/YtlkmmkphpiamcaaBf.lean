/-
  spec.Feedback, without the program: packets in the order of their numbers; what is told of them. No condition. By an AI agent.
-/
import Derived.Test.YtlkmmkphpiamcaaBb
import Derived.Test.YtlkmmkphpiamcaaQp
namespace Go.Proofs.Ytlkmmkphpiamcaa
open Go.RowKit

/-- The first k packets, in the order of their numbers, each with its place. -/
structure PQ (xs : List Nat) (k : Nat) (its : List It) : Prop where
  up : Up It.n its
  mem : ∀ y ∈ its, y.t < k ∧ xs[y.t]? = some y.n
  has : ∀ j x, j < k → xs[j]? = some x → (⟨x, j⟩ : It) ∈ its
  len : its.length = k
theorem PQ.nil (xs : List Nat) : PQ xs 0 [] := ⟨List.Pairwise.nil, by simp, fun j x h => by omega, rfl⟩
theorem nodup_at {xs : List Nat} (hd : xs.Nodup) {i j x : Nat} (hi : xs[i]? = some x) (hj : xs[j]? = some x) : i = j := by
  obtain ⟨h1, e1⟩ := List.getElem?_eq_some_iff.1 hi
  obtain ⟨h2, e2⟩ := List.getElem?_eq_some_iff.1 hj
  rw [List.nodup_iff_pairwise_ne, List.pairwise_iff_getElem] at hd
  rcases Nat.lt_trichotomy i j with h | h | h
  · exact absurd (e1.trans e2.symm) (hd i j h1 h2 h)
  · exact h
  · exact absurd (e2.trans e1.symm) (hd j i h2 h1 h)
theorem PQ.push {xs : List Nat} {k x i : Nat} {its : List It} (h : PQ xs k its) (hd : xs.Nodup) (hx : xs[k]? = some x) (hi : i ≤ its.length) (hb : ∀ y ∈ its.drop i, x < y.n) (ha : 0 < i → ∀ y, its[i - 1]? = some y → y.n ≤ x) : PQ xs (k + 1) (its.take i ++ ⟨x, k⟩ :: its.drop i) := by
  have hne : ∀ y ∈ its, y.n ≠ x := fun y hy e => by
    obtain ⟨h1, h2⟩ := h.mem y hy
    rw [e] at h2
    have := nodup_at hd h2 hx
    omega
  have he := insBy_place (k := It.n) (x := ⟨x, k⟩) h.up hne hi hb ha
  rw [← he]
  have hp := insBy_perm (k := It.n) (⟨x, k⟩ : It) its
  refine ⟨h.up.ins hne, fun y hy => ?_, fun j z hj hz => ?_, by rw [insBy_length, h.len]⟩
  · rcases List.mem_cons.1 (hp.subset hy) with rfl | hy
    · exact ⟨by simp, hx⟩
    · have := h.mem y hy
      exact ⟨by omega, this.2⟩
  · apply hp.symm.subset
    rcases Nat.lt_or_ge j k with hjk | hjk
    · exact List.mem_cons_of_mem _ (h.has j z hjk hz)
    · obtain rfl : j = k := by omega
      rw [hx] at hz
      injection hz with hz
      subst hz
      exact List.mem_cons_self

section
variable {xs : List Nat} {ts : List Int} {its : List It}
theorem zip_at {j x : Nat} {t : Int} (hx : xs[j]? = some x) (ht : ts[j]? = some t) : (xs.zip ts)[j]? = some (x, t) := by
  rw [List.getElem?_zip_eq_some]
  exact ⟨hx, ht⟩
theorem zip_fst (hl : xs.length = ts.length) : (xs.zip ts).map Prod.fst = xs := List.map_fst_zip (by omega)
/-- The arrival of an item. -/
theorem PQ.arr {k : Nat} (h : PQ xs k its) (hl : xs.length = ts.length) (hd : xs.Nodup) {y : It} (hy : y ∈ its) : ∃ t, ts[y.t]? = some t ∧ recF (xs.zip ts) y.n = t := by
  obtain ⟨_, h2⟩ := h.mem y hy
  have hlt := (List.getElem?_eq_some_iff.1 h2).1
  refine ⟨ts[y.t]'(by omega), List.getElem?_eq_getElem _, ?_⟩
  have hz := zip_at h2 (List.getElem?_eq_getElem (show y.t < ts.length by omega))
  exact recF_in (by rw [zip_fst hl]; exact hd) (List.mem_of_getElem? hz)
theorem PQ.none_ (h : PQ xs xs.length its) (hl : xs.length = ts.length) {i : Nat} (hi : ∀ y ∈ its, y.n ≠ i) : recF (xs.zip ts) i = -1 := by
  apply recF_out
  rw [zip_fst hl]
  intro hm
  obtain ⟨j, hj, e⟩ := List.mem_iff_getElem.1 hm
  exact hi ⟨i, j⟩ (h.has j i hj (by rw [← e]; exact List.getElem?_eq_getElem hj)) rfl
end

/-- What is told of packets: from s up to e, the state st at the end. -/
structure Tells (xs : List Nat) (ts : List Int) (s e : Nat) (st : St) : Prop where
  len : xs.length = ts.length
  nd : xs.Nodup
  good : ∀ t ∈ ts, goodT t
  exact_ : ExactF (xs.zip ts) s e (recF (xs.zip ts))
  small : e ≤ s + 200
  fold : foldSt (recF (xs.zip ts)) s (e - s) (st00 s (recF (xs.zip ts) s)) = some st
  q : st.q = e

/-- In the loop over the numbers. -/
structure TL (F : Nat → Int) (its : List It) (s n a : Nat) (st : St) : Prop where
  sn : s ≤ n
  al : a ≤ its.length
  lo : ∀ y ∈ its.take a, y.n < n
  hi : ∀ y ∈ its.drop a, n ≤ y.n
  fold : foldSt F s (n - s) (st00 s (F s)) = some st
  q : st.q ≤ n
  last : s < n → 0 ≤ F (n - 1) → st.q = n
theorem TL.zero {F : Nat → Int} {its : List It} {s : Nat} {y0 : It} (hup : Up It.n its) (h0 : its[0]? = some y0) (hs : y0.n = s) : TL F its s s 0 (st00 s (F s)) := by
  refine ⟨Nat.le_refl _, Nat.zero_le _, by simp, fun y hy => ?_, by rw [Nat.sub_self]; rfl, Nat.le_refl _, fun h => by omega⟩
  rw [List.drop_zero] at hy
  obtain ⟨h1, e1⟩ := List.getElem?_eq_some_iff.1 h0
  obtain ⟨j, hj, e⟩ := List.mem_iff_getElem.1 hy
  rcases Nat.eq_zero_or_pos j with hz | hz
  · subst hz
    rw [← e, e1, hs]
    exact Nat.le_refl _
  · have h2 := List.pairwise_iff_getElem.1 hup 0 j h1 hj hz
    rw [e1, hs, e] at h2
    omega
theorem foldSt_one {F : Nat → Int} {s n : Nat} {st0 st : St} (h : foldSt F s (n - s) st0 = some st) (hsn : s ≤ n) : foldSt F s (n + 1 - s) st0 = stepSt F n st := by
  rw [show n + 1 - s = (n - s) + 1 by omega, foldSt_add, h]
  simp only [Option.bind_some]
  rw [show s + (n - s) = n by omega]
  simp only [foldSt]
  cases stepSt F n st <;> rfl
/-- The number did not come. -/
theorem TL.miss {F : Nat → Int} {its : List It} {s n a : Nat} {st : St} {y : It} (h : TL F its s n a st) (hy : its[a]? = some y) (hne : y.n ≠ n) (hup : Up It.n its) (hF : (∀ z ∈ its, z.n ≠ n) → F n = -1) : F n < 0 ∧ TL F its s (n + 1) a st := by
  have hall : ∀ z ∈ its, z.n ≠ n := by
    intro z hz
    rw [← List.take_append_drop a its] at hz
    rcases List.mem_append.1 hz with hz | hz
    · have := h.lo z hz
      omega
    · intro e
      obtain ⟨j, hj, e2⟩ := List.mem_iff_getElem.1 hz
      rw [List.getElem_drop] at e2
      obtain ⟨h1, e1⟩ := List.getElem?_eq_some_iff.1 hy
      have hyn := h.hi y (by
        rw [← e1]
        exact List.mem_iff_getElem.2 ⟨0, by rw [List.length_drop]; omega, by rw [List.getElem_drop]; simp⟩)
      rcases Nat.eq_zero_or_pos j with hz0 | hz0
      · subst hz0
        simp only [Nat.add_zero] at e2
        rw [e1] at e2
        rw [e2] at hne
        exact hne e
      · have hj2 : a + j < its.length := by rw [List.length_drop] at hj; omega
        have h2 := List.pairwise_iff_getElem.1 hup a (a + j) h1 hj2 (by omega)
        rw [e1, e2] at h2
        omega
  have hneg : F n < 0 := by rw [hF hall]; decide
  have hdrop : ∀ z ∈ its.drop a, n + 1 ≤ z.n := fun z hz => by
    have h1 := h.hi z hz
    have h2 := hall z (List.mem_of_mem_drop hz)
    omega
  have hsn := h.sn
  refine ⟨hneg, ⟨by omega, h.al, fun z hz => by have := h.lo z hz; omega, hdrop, ?_, by have := h.q; omega, fun _ h0 => ?_⟩⟩
  · rw [foldSt_one h.fold hsn, stepSt, if_pos hneg]
  · rw [show n + 1 - 1 = n by omega] at h0
    omega
/-- It came, and its time fits. -/
theorem TL.hit {F : Nat → Int} {its : List It} {s n a : Nat} {st : St} {y : It} (h : TL F its s n a st) (hy : its[a]? = some y) (he : y.n = n) (hup : Up It.n its) (h0 : 0 ≤ F n) (hfit : fitsD (F n - st.t)) : TL F its s (n + 1) (a + 1) (nextSt F n st) := by
  have hsn := h.sn
  obtain ⟨h1, e1⟩ := List.getElem?_eq_some_iff.1 hy
  refine ⟨by omega, by omega, fun z hz => ?_, fun z hz => ?_, ?_, by simp [nextSt], fun _ _ => by simp [nextSt]⟩
  · rw [List.take_add_one, hy] at hz
    rcases List.mem_append.1 hz with hz | hz
    · have := h.lo z hz
      omega
    · simp only [Option.toList_some, List.mem_singleton] at hz
      subst hz
      omega
  · obtain ⟨j, hj, e2⟩ := List.mem_iff_getElem.1 hz
    rw [List.getElem_drop] at e2
    rw [List.length_drop] at hj
    have h2 := List.pairwise_iff_getElem.1 hup a (a + 1 + j) h1 (by omega) (by omega)
    rw [e1, e2] at h2
    omega
  · rw [foldSt_one h.fold hsn, stepSt, if_neg (by omega), if_pos hfit]
/-- At the end. -/
theorem TL.tells {xs : List Nat} {ts : List Int} {its : List It} {s e a : Nat} {st : St} {y0 yl : It} (h : TL (recF (xs.zip ts)) its s e a st) (hp : PQ xs xs.length its) (hl : xs.length = ts.length) (hd : xs.Nodup) (hg : ∀ t ∈ ts, goodT t)
    (h0 : its[0]? = some y0) (hs : y0.n = s) (hlast : its[its.length - 1]? = some yl) (he : yl.n + 1 = e) (hsm : yl.n < s + 200) : Tells xs ts s e st := by
  have hall : ∀ z ∈ its, s ≤ z.n ∧ z.n < e := by
    intro z hz
    obtain ⟨j, hj, e2⟩ := List.mem_iff_getElem.1 hz
    obtain ⟨q1, q2⟩ := List.getElem?_eq_some_iff.1 h0
    obtain ⟨q3, q4⟩ := List.getElem?_eq_some_iff.1 hlast
    constructor
    · rcases Nat.eq_zero_or_pos j with hz0 | hz0
      · subst hz0
        rw [q2] at e2
        rw [← e2]
        omega
      · have h2 := List.pairwise_iff_getElem.1 hp.up 0 j q1 hj hz0
        rw [q2, e2] at h2
        omega
    · rcases Nat.lt_or_ge j (its.length - 1) with hz0 | hz0
      · have h2 := List.pairwise_iff_getElem.1 hp.up j (its.length - 1) hj q3 hz0
        rw [q4, e2] at h2
        omega
      · have hje : j = its.length - 1 := by omega
        subst hje
        rw [q4] at e2
        rw [← e2]
        omega
  have hmem : ∀ y ∈ its, y.n ∈ xs := fun y hy => List.mem_of_getElem? (hp.mem y hy).2
  have hfst := zip_fst hl
  have hy0 := hmem y0 (List.mem_of_getElem? h0)
  have hyl := hmem yl (List.mem_of_getElem? hlast)
  have hall0 := hall yl (List.mem_of_getElem? hlast)
  refine ⟨hl, hd, hg, ⟨by omega, fun _ _ _ => rfl, by rw [hfst, ← hs]; exact hy0, by rw [hfst, ← he]; simpa using hyl, fun i hi => ?_⟩, by omega, h.fold, ?_⟩
  · rw [hfst] at hi
    obtain ⟨j, hj, e2⟩ := List.mem_iff_getElem.1 hi
    exact hall ⟨i, j⟩ (hp.has j i hj (by rw [← e2]; exact List.getElem?_eq_getElem hj))
  · obtain ⟨t, ht, hF⟩ := hp.arr hl hd (List.mem_of_getElem? hlast)
    have hgt := hg t (List.mem_of_getElem? ht)
    refine h.last (by omega) ?_
    rw [show e - 1 = yl.n by omega, hF]
    exact hgt.1
end Go.Proofs.Ytlkmmkphpiamcaa
