/-
  The recorder over batches of packets: what stands when some have been recorded. No condition. By an AI agent.
-/
import Derived.Test.YtlkmmkphpiamcaaBa
import Derived.Test.YtlkmmkphpiamcaaKw
namespace Go.Proofs.Ytlkmmkphpiamcaa
open Go.RowKit

/-- The arrivals of packets. -/
def recF (l : List (Nat × Int)) : Nat → Int := l.foldl (fun f p => setAt f p.1 p.2) (fun _ => -1)
theorem recF_snoc (l : List (Nat × Int)) (p : Nat × Int) : recF (l ++ [p]) = setAt (recF l) p.1 p.2 := by simp [recF, List.foldl_append]
theorem recF_gen (l : List (Nat × Int)) (f : Nat → Int) (i : Nat) (h : i ∉ l.map Prod.fst) : l.foldl (fun f p => setAt f p.1 p.2) f i = f i := by
  induction l generalizing f with
  | nil => rfl
  | cons p l ih =>
    simp only [List.map_cons, List.mem_cons, not_or] at h
    rw [List.foldl_cons, ih _ h.2, setAt, if_neg h.1]
theorem recF_out (l : List (Nat × Int)) (i : Nat) (h : i ∉ l.map Prod.fst) : recF l i = -1 := recF_gen l _ i h
theorem recF_in {l : List (Nat × Int)} (hd : (l.map Prod.fst).Nodup) {x : Nat} {t : Int} (h : (x, t) ∈ l) : recF l x = t := by
  unfold recF
  generalize (fun _ : Nat => (-1 : Int)) = f
  induction l generalizing f with
  | nil => simp at h
  | cons p l ih =>
    simp only [List.map_cons, List.nodup_cons] at hd
    rw [List.foldl_cons]
    rcases List.mem_cons.1 h with h | h
    · subst h
      rw [recF_gen l _ x hd.1]
      simp [setAt]
    · exact ih hd.2 h _
/-- All that came, from the first to the last one. -/
structure ExactF (recs : List (Nat × Int)) (s e : Nat) (F : Nat → Int) : Prop where
  lt : s < e
  F : ∀ i, s ≤ i → i < e → F i = recF recs i
  first : s ∈ recs.map Prod.fst
  last : e - 1 ∈ recs.map Prod.fst
  all : ∀ i ∈ recs.map Prod.fst, s ≤ i ∧ i < e
theorem ExactF.one (x : Nat) (t : Int) : ExactF [(x, t)] x (x + 1) (setAt (fun _ => -1) x t) :=
  ⟨by omega, fun i _ _ => rfl, by simp, by simp, by simp⟩
theorem ExactF.next {recs : List (Nat × Int)} {s e : Nat} {F : Nat → Int} (h : ExactF recs s e F) (x : Nat) (t : Int) : ExactF (recs ++ [(x, t)]) (min s x) (max e (x + 1)) (setAt (arr s e F) x t) := by
  have hlt := h.lt
  refine ⟨by omega, fun i h1 h2 => ?_, ?_, ?_, fun i hi => ?_⟩
  · rw [recF_snoc]
    simp only [setAt]
    by_cases hx : i = x
    · rw [if_pos hx, if_pos hx]
    · rw [if_neg hx, if_neg hx]
      by_cases hr : s ≤ i ∧ i < e
      · simp only [arr]
        rw [if_pos hr]
        exact h.F i hr.1 hr.2
      · simp only [arr]
        rw [if_neg hr, recF_out]
        exact fun hm => hr (h.all i hm)
  · rw [List.map_append]
    rcases Nat.lt_or_ge x s with h1 | h1
    · rw [Nat.min_eq_right (by omega)]
      simp
    · rw [Nat.min_eq_left h1]
      exact List.mem_append_left _ h.first
  · rw [List.map_append]
    rcases Nat.lt_or_ge x e with h1 | h1
    · rw [Nat.max_eq_left (by omega)]
      exact List.mem_append_left _ h.last
    · rw [Nat.max_eq_right (by omega)]
      simp
  · rw [List.map_append] at hi
    rcases List.mem_append.1 hi with hi | hi
    · have := h.all i hi
      omega
    · simp only [List.map_cons, List.map_nil, List.mem_singleton] at hi
      omega

/-- The recorder when packets have been recorded; its blocks are new. -/
structure RecOk (w : World) (B0 r lo : Nat) (recs : List (Nat × Int)) (sd md : Int) (cnt held g C b e : Nat) (F : Nat → Int) (p s L : Nat) : Prop where
  rcd : RecAt w r g C b e F p s L sd md cnt held
  win : lo ≤ b ∧ b ≤ s ∧ s ≤ e ∧ e ≤ lo + 200
  at_ : lo ≤ L ∧ L < lo + 200
  good : ∀ i, F i < 0 ∨ goodT (F i)
  sub : ∀ i, 0 ≤ F i → i ∈ recs.map Prod.fst
  hg : B0 ≤ g
  hp : B0 ≤ p

theorem RecOk.next {w w' : World} {B0 r lo : Nat} {recs : List (Nat × Int)} {sd md : Int} {cnt held g C b e : Nat} {F : Nat → Int} {p s L x : Nat} {t : Int} (h : RecOk w B0 r lo recs sd md cnt held g C b e F p s L) (hr : Recorded w w' r g b e p s x F t sd md cnt held)
    (hx : lo ≤ x ∧ x < lo + 200) (ht : goodT t) (hB : B0 ≤ w.heap.size) : ∃ g' C' b' e' F' s', RecOk w' B0 r lo (recs ++ [(x, t)]) sd md cnt (held + 1) g' C' b' e' F' p s' x ∧ (g' = g ∨ w.heap.size ≤ g') ∧ (ExactF recs s e F ∧ b = s → ExactF (recs ++ [(x, t)]) s' e' F' ∧ b' = s') := by
  obtain ⟨b1, g', C', hb1, hb2, hb3, hrec, hg', _⟩ := hr
  obtain ⟨h1, h2, h3, h4⟩ := h.win
  have hbs : b1 ≤ s := by
    by_cases hc : e ≤ s ∧ 500000 ≤ t
    · omega
    · rw [hb3 hc]
      exact h2
  refine ⟨g', C', _, _, _, _, ⟨hrec, ?_, hx, fun i => ?_, fun i hi => ?_, ?_, h.hp⟩, hg', fun hE => ?_⟩
  · refine ⟨by omega, ?_, ?_, by omega⟩
    · split <;> omega
    · split <;> omega
  · simp only [setAt]
    by_cases hix : i = x
    · rw [if_pos hix]
      exact .inr ht
    · rw [if_neg hix, arr]
      split
      · exact h.good i
      · exact .inl (by decide)
  · simp only [setAt] at hi
    rw [List.map_append]
    by_cases hix : i = x
    · subst hix
      simp
    · rw [if_neg hix, arr] at hi
      split at hi
      · exact List.mem_append_left _ (h.sub i hi)
      · exact absurd hi (by decide)
  · have := h.hg
    rcases hg' with rfl | hg'
    · exact this
    · omega
  · obtain ⟨hE, rfl⟩ := hE
    have hlt := hE.lt
    have hb : b1 = b := hb3 (by omega)
    subst hb
    have hs : (if x < b1 then x else b1) = min b1 x := by split <;> omega
    rw [hs]
    exact ⟨hE.next x t, rfl⟩

/-- Reports are numbered on. -/
def Numb (n : Nat) (rs : List Rp) : Prop := ∀ j r, rs[j]? = some r → r.fb = (n + j) % 256
theorem Builds.numb {F : Nat → Int} {e : Nat} {sd md : Int} {s cnt s' : Nat} {rs : List Rp} (h : Builds F e sd md s cnt rs s') : cnt < 256 → Numb cnt rs := by
  induction h with
  | stop s cnt h => intro _ j r hr; simp at hr
  | none s cnt h hn => intro _ j r hr; simp at hr
  | step s cnt x st reps s' hs hx h0 hn he hq hl r ih =>
    intro hc j r' hr
    cases j with
    | zero =>
      simp only [List.getElem?_cons_zero, Option.some.injEq] at hr
      subst hr
      show cnt = _
      omega
    | succ j =>
      have := ih (Nat.mod_lt _ (by decide)) j r' (by simpa using hr)
      omega
/-- What the first batch gives. -/
def First (sd md : Int) (recs : List (Nat × Int)) (rs : List Rp) : Prop := ∃ s e F s', ExactF recs s e F ∧ Builds F e sd md s 0 rs s' ∧ e ≤ s + 200

/-- One frame, whatever world of a kind. -/
def RelV (A : Act) (R : World → Prop) : Exit → Act → World → Prop := fun e a w => match e with
  | .normal => a = A ∧ R w
  | _ => False
theorem wp_rel {P : Program} {c : Code} {Q : Exit → Act → World → Prop} {a : Act} {w : World} (R : World → Prop) (A : Act) (h : c.wp P (RelV A R) a w) (hq : ∀ w', R w' → Q .normal A w') : c.wp P Q a w :=
  Code.wp_mono (fun e a w h => by
    cases e <;> first | (obtain ⟨rfl, hr⟩ := h; exact hq w hr) | exact h.elim) h
end Go.Proofs.Ytlkmmkphpiamcaa
