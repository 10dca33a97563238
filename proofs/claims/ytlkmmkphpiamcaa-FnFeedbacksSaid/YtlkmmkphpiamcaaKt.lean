/-
  Feedback, without the program: what is told of arrivals, one number behind the other. No condition. By an AI agent.
-/
import Derived.Test.YtlkmmkphpiamcaaKq
namespace Go.Proofs.Ytlkmmkphpiamcaa
open Go.RowKit

/-- Feedback so far: the symbols, the times, the last arrival, the next number. -/
structure St where
  S : List Nat
  D : List Int
  t : Int
  q : Nat
/-- Does a time fit? -/
def fitsD (d : Int) : Prop := -8192000 ≤ d ∧ d ≤ 8191750
instance (d : Int) : Decidable (fitsD d) := by unfold fitsD; infer_instance
def nextSt (F : Nat → Int) (x : Nat) (st : St) : St := ⟨st.S ++ List.replicate (x - st.q) 0 ++ [symOf (F x - st.t)], st.D ++ [F x - st.t], F x, x + 1⟩
def stepSt (F : Nat → Int) (x : Nat) (st : St) : Option St := if F x < 0 then some st else if fitsD (F x - st.t) then some (nextSt F x st) else none
def foldSt (F : Nat → Int) : Nat → Nat → St → Option St
  | _, 0, st => some st
  | x, n + 1, st => (stepSt F x st).bind (foldSt F (x + 1) n)
theorem foldSt_add (F : Nat → Int) (n m : Nat) : ∀ (x : Nat) (st : St), foldSt F x (n + m) st = (foldSt F x n st).bind (foldSt F (x + n) m) := by
  induction n with
  | zero => intro x st; simp [foldSt]
  | succ n ih =>
    intro x st
    rw [show n + 1 + m = (n + m) + 1 by omega]
    simp only [foldSt, Option.bind_assoc]
    congr 1
    funext st'
    rw [ih, show x + 1 + n = x + (n + 1) by omega]
theorem foldSt_skip (F : Nat → Int) : ∀ (n x : Nat) (st : St), (∀ i, x ≤ i → i < x + n → F i < 0) → foldSt F x n st = some st := by
  intro n
  induction n with
  | zero => intro x st _; rfl
  | succ n ih =>
    intro x st h
    rw [foldSt, stepSt, if_pos (h x (Nat.le_refl _) (by omega))]
    exact ih (x + 1) st fun i h1 h2 => h i (by omega) (by omega)
/-- So far: from s up to q, all of them told. -/
def Told (F : Nat → Int) (s : Nat) (st0 st : St) : Prop := s ≤ st.q ∧ foldSt F s (st.q - s) st0 = some st
theorem Told.zero (F : Nat → Int) (st0 : St) : Told F st0.q st0 st0 := ⟨Nat.le_refl _, by rw [Nat.sub_self]; rfl⟩
theorem Told.fold {F : Nat → Int} {s x : Nat} {st0 st : St} (h : Told F s st0 st) (hx : st.q ≤ x) (hn : ∀ i, st.q ≤ i → i < x → F i < 0) : foldSt F s (x - s) st0 = some st := by
  rw [show x - s = (st.q - s) + (x - st.q) by have := h.1; omega, foldSt_add, h.2]
  simp only [Option.bind_some]
  refine foldSt_skip F _ _ _ fun i h1 h2 => hn i ?_ ?_ <;> have := h.1 <;> omega
theorem Told.next {F : Nat → Int} {s x : Nat} {st0 st : St} (h : Told F s st0 st) (hx : st.q ≤ x) (hn : ∀ i, st.q ≤ i → i < x → F i < 0) (h0 : 0 ≤ F x) (hf : fitsD (F x - st.t)) : Told F s st0 (nextSt F x st) := by
  have h1 := h.fold hx hn
  have hs := h.1
  refine ⟨by simp only [nextSt]; omega, ?_⟩
  rw [show (nextSt F x st).q - s = (x - s) + 1 by simp only [nextSt]; omega, foldSt_add, h1]
  simp only [Option.bind_some]
  rw [show s + (x - s) = x by omega]
  simp [foldSt, stepSt, if_neg (show ¬ F x < 0 by omega), if_pos hf]
theorem Told.fails {F : Nat → Int} {s x e : Nat} {st0 st : St} (h : Told F s st0 st) (hx : st.q ≤ x) (hn : ∀ i, st.q ≤ i → i < x → F i < 0) (h0 : 0 ≤ F x) (hf : ¬ fitsD (F x - st.t)) (he : x < e) : foldSt F s (e - s) st0 = none := by
  have h1 := h.fold hx hn
  have hs := h.1
  rw [show e - s = (x - s) + (1 + (e - x - 1)) by omega, foldSt_add, h1]
  simp only [Option.bind_some]
  rw [show s + (x - s) = x by omega, foldSt_add]
  simp [foldSt, stepSt, if_neg (show ¬ F x < 0 by omega), if_neg hf]
/-- At the end: as far as times fit. -/
def Ends (F : Nat → Int) (s e : Nat) (st0 st : St) : Prop := Told F s st0 st ∧ (foldSt F s (e - s) st0 = some st ∨ foldSt F s (e - s) st0 = none)
/-- The state at the first number that is found. -/
def st00 (s : Nat) (t : Int) : St := ⟨[], [], t / 64000 * 64000, s⟩
theorem symOf_le (d : Int) : symOf d ≤ 2 := by unfold symOf; split <;> omega
theorem nextSt_len (F : Nat → Int) (x s : Nat) (st : St) (h : st.S.length + s = st.q) (hx : st.q ≤ x) : (nextSt F x st).S.length + s = (nextSt F x st).q := by
  simp only [nextSt, List.length_append, List.length_replicate, List.length_singleton]
  omega
end Go.Proofs.Ytlkmmkphpiamcaa
