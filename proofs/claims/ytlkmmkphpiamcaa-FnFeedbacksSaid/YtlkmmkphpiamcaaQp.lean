/-
  The plain law of the queue: lists with insertion in order and taking of the first one with a property. No condition. By an AI agent.
-/
import Init
namespace Go.Proofs.Ytlkmmkphpiamcaa

/-- The first one with a property, and the rest. -/
def takeBy {α : Type} (p : α → Bool) : List α → Option (α × List α)
  | [] => none
  | x :: r => if p x then some (x, r) else (takeBy p r).map fun y => (y.1, x :: y.2)
def insBy {α : Type} (k : α → Nat) (x : α) : List α → List α
  | [] => [x]
  | y :: r => if k x ≤ k y then x :: y :: r else y :: insBy k x r

section
variable {α β : Type} {p : α → Bool} {k : α → Nat}
theorem takeBy_skip {a r : List α} (h : ∀ x ∈ a, p x = false) : takeBy p (a ++ r) = (takeBy p r).map fun y => (y.1, a ++ y.2) := by
  induction a with
  | nil => simp
  | cons x a ih =>
    rw [List.cons_append, takeBy, h x (by simp), ih (fun y hy => h y (by simp [hy]))]
    cases takeBy p r <;> simp
theorem takeBy_hit {a r : List α} {x : α} (h : ∀ x ∈ a, p x = false) (hx : p x = true) : takeBy p (a ++ x :: r) = some (x, a ++ r) := by
  rw [takeBy_skip h, takeBy, if_pos hx]
  rfl
theorem takeBy_none {l : List α} (h : ∀ x ∈ l, p x = false) : takeBy p l = none := by
  have := takeBy_skip (r := []) h
  simpa [takeBy] using this
/-- Where it is found. -/
theorem takeBy_some {l r : List α} {x : α} (h : takeBy p l = some (x, r)) : ∃ a b, l = a ++ x :: b ∧ r = a ++ b ∧ p x = true ∧ ∀ y ∈ a, p y = false := by
  induction l generalizing r with
  | nil => simp [takeBy] at h
  | cons y l ih =>
    rw [takeBy] at h
    split at h
    · rename_i hy
      injection h with h
      injection h with h1 h2
      subst h1 h2
      exact ⟨[], l, rfl, rfl, hy, by simp⟩
    · rename_i hy
      cases ht : takeBy p l with
      | none => rw [ht] at h; simp at h
      | some z =>
        rw [ht] at h
        simp at h
        obtain ⟨h1, h2⟩ := h
        subst h1 h2
        obtain ⟨a, b, e1, e2, e3, e4⟩ := ih (r := z.2) (by rw [ht])
        refine ⟨y :: a, b, by rw [e1]; rfl, by rw [e2]; rfl, e3, fun w hw => ?_⟩
        rcases List.mem_cons.1 hw with rfl | hw
        · simpa using hy
        · exact e4 w hw
theorem takeBy_no {l : List α} (h : takeBy p l = none) : ∀ x ∈ l, p x = false := by
  induction l with
  | nil => simp
  | cons y l ih =>
    rw [takeBy] at h
    split at h
    · cases h
    · rename_i hy
      cases ht : takeBy p l with
      | none =>
        intro x hx
        rcases List.mem_cons.1 hx with rfl | hx
        · simpa using hy
        · exact ih ht x hx
      | some z => rw [ht] at h; simp at h
theorem takeBy_map (f : α → β) (p : β → Bool) (l : List α) : takeBy p (l.map f) = (takeBy (fun x => p (f x)) l).map fun y => (f y.1, y.2.map f) := by
  induction l with
  | nil => rfl
  | cons x l ih =>
    simp only [List.map_cons, takeBy, ih]
    split
    · rfl
    · cases takeBy (fun x => p (f x)) l <;> simp
theorem insBy_at {a r : List α} {x : α} (ha : ∀ y ∈ a, k y < k x) (hr : ∀ y, r.head? = some y → k x ≤ k y) : insBy k x (a ++ r) = a ++ x :: r := by
  induction a with
  | nil =>
    cases r with
    | nil => rfl
    | cons y r => simp [insBy, hr y (by simp)]
  | cons y a ih =>
    rw [List.cons_append, insBy, if_neg (by have := ha y (by simp); omega), ih (fun z hz => ha z (by simp [hz]))]
    rfl
theorem insBy_map (f : β → α) (x : β) (l : List β) : (insBy (fun y => k (f y)) x l).map f = insBy k (f x) (l.map f) := by
  induction l with
  | nil => rfl
  | cons y l ih =>
    simp only [List.map_cons, insBy]
    split
    · rfl
    · rw [List.map_cons, ih]
theorem insBy_perm (x : α) (l : List α) : (insBy k x l).Perm (x :: l) := by
  induction l with
  | nil => exact List.Perm.refl _
  | cons y l ih =>
    rw [insBy]
    split
    · exact List.Perm.refl _
    · exact (ih.cons y).trans (List.Perm.swap x y l)
theorem insBy_length (x : α) (l : List α) : (insBy k x l).length = l.length + 1 := (insBy_perm x l).length_eq
theorem takeBy_length {l r : List α} {x : α} (h : takeBy p l = some (x, r)) : r.length + 1 = l.length := by
  obtain ⟨a, b, rfl, rfl, _⟩ := takeBy_some h
  simp
  omega
/-- In order, and none twice. -/
def Up (k : α → Nat) (l : List α) : Prop := l.Pairwise fun a b => k a < k b
theorem Up.take {l r : List α} {x : α} (h : Up k l) (ht : takeBy p l = some (x, r)) : Up k r := by
  obtain ⟨a, b, rfl, rfl, _⟩ := takeBy_some ht
  exact List.Pairwise.sublist (List.Sublist.append_left (List.sublist_cons_self _ _) _) h
theorem Up.ins {l : List α} {x : α} (h : Up k l) (hx : ∀ y ∈ l, k y ≠ k x) : Up k (insBy k x l) := by
  induction l with
  | nil => exact List.pairwise_singleton _ _
  | cons y l ih =>
    have h1 := List.pairwise_cons.1 h
    rw [insBy]
    split
    · rename_i hxy
      have := hx y (by simp)
      refine List.pairwise_cons.2 ⟨fun z hz => ?_, h⟩
      rcases List.mem_cons.1 hz with rfl | hz
      · omega
      · have := h1.1 z hz
        omega
    · rename_i hxy
      refine List.pairwise_cons.2 ⟨fun z hz => ?_, ih h1.2 (fun z hz => hx z (by simp [hz]))⟩
      rcases List.mem_cons.1 ((insBy_perm x l).subset hz) with rfl | hz
      · omega
      · exact h1.1 z hz
/-- A place behind which all are greater, and ahead of which one is not: what is put there is in order. -/
theorem insBy_place {l : List α} {x : α} {i : Nat} (h : Up k l) (hx : ∀ y ∈ l, k y ≠ k x) (hi : i ≤ l.length) (hb : ∀ y ∈ l.drop i, k x < k y) (ha : 0 < i → ∀ y, l[i - 1]? = some y → k y ≤ k x) :
    insBy k x l = l.take i ++ x :: l.drop i := by
  have key : ∀ y ∈ l.take i, k y < k x := by
    intro y hy
    obtain ⟨j, hj⟩ := List.mem_iff_getElem?.1 hy
    have hjl : j < i := by
      have := (List.getElem?_eq_some_iff.1 hj).1
      simp at this
      omega
    rw [List.getElem?_take, if_pos hjl] at hj
    have hil : i - 1 < l.length := by omega
    have hz := ha (by omega) l[i - 1] (List.getElem?_eq_getElem hil)
    have hne := hx l[i - 1] (List.getElem_mem hil)
    have hle : k y ≤ k l[i - 1] := by
      rcases Nat.lt_or_ge j (i - 1) with h1 | h1
      · have hjj := (List.getElem?_eq_some_iff.1 hj)
        obtain ⟨hj1, hj2⟩ := hjj
        have := List.pairwise_iff_getElem.1 h j (i - 1) hj1 hil h1
        rw [hj2] at this
        omega
      · have : j = i - 1 := by omega
        subst this
        rw [List.getElem?_eq_getElem hil] at hj
        injection hj with hj
        rw [hj]
        exact Nat.le_refl _
    omega
  have h2 := insBy_at (k := k) (x := x) (a := l.take i) (r := l.drop i) key (fun y hy => by
    have := hb y (List.mem_of_mem_head? hy)
    omega)
  rwa [List.take_append_drop] at h2
end

/-- A call of a queue. -/
structure Stp where
  what : Nat
  seq : Nat
  time : Nat
/-- What lies in a queue: number and time. -/
structure It where
  n : Nat
  t : Nat
/-- What a call gives: whether it had no error, the number, the count. -/
structure An where
  ok : Bool
  seq : Nat
  n : Nat
def anOf : Option It → An
  | none => ⟨false, 0, 0⟩
  | some x => ⟨true, x.n, 0⟩
def restOf (l : List It) : Option (It × List It) → List It
  | none => l
  | some x => x.2
def qTake (s : Stp) (l : List It) : Option (It × List It) :=
  if s.what = 1 then takeBy (fun _ => true) l else if s.what = 3 then takeBy (fun x => decide (x.t = s.time)) l else takeBy (fun x => decide (x.n = s.seq)) l
/-- One call: what it gives, and what lies there then. -/
def qAns (s : Stp) (l : List It) : An :=
  if s.what = 0 then ⟨true, 0, 0⟩ else if s.what = 5 then ⟨true, 0, l.length⟩ else anOf ((qTake s l).map Prod.fst)
def qNext (s : Stp) (l : List It) : List It :=
  if s.what = 0 then insBy It.n ⟨s.seq, s.time⟩ l else if s.what = 4 ∨ s.what = 5 then l else restOf l (qTake s l)
/-- What lies there after some calls; what they gave. -/
def qSt (ss : List Stp) : List It := ss.foldl (fun l s => qNext s l) []
def qOut (ss : List Stp) : List An := (List.range ss.length).map fun i => qAns (ss.getD i ⟨0, 0, 0⟩) (qSt (ss.take i))
theorem qSt_snoc (ss : List Stp) (s : Stp) : qSt (ss ++ [s]) = qNext s (qSt ss) := by simp [qSt, List.foldl_append]
theorem qSt_take {ss : List Stp} {i : Nat} {s : Stp} (h : ss[i]? = some s) : qSt (ss.take (i + 1)) = qNext s (qSt (ss.take i)) := by
  rw [List.take_add_one, h, Option.toList_some, qSt_snoc]
theorem qOut_snoc (ss : List Stp) (s : Stp) : qOut (ss ++ [s]) = qOut ss ++ [qAns s (qSt ss)] := by
  unfold qOut
  rw [List.length_append, List.length_singleton, List.range_succ, List.map_append]
  congr 1
  · apply List.map_congr_left
    intro i hi
    have hi := List.mem_range.1 hi
    rw [List.take_append_of_le_length (by omega)]
    congr 1
    simp [List.getD, List.getElem?_append_left hi]
  · simp [List.getD]
theorem qOut_take {ss : List Stp} {i : Nat} {s : Stp} (h : ss[i]? = some s) : qOut (ss.take (i + 1)) = qOut (ss.take i) ++ [qAns s (qSt (ss.take i))] := by
  rw [List.take_add_one, h, Option.toList_some, qOut_snoc]
theorem qOut_length (ss : List Stp) : (qOut ss).length = ss.length := by simp [qOut]
theorem qOut_get {ss : List Stp} {i : Nat} {s : Stp} (h : ss[i]? = some s) : (qOut ss)[i]? = some (qAns s (qSt (ss.take i))) := by
  have hi := (List.getElem?_eq_some_iff.1 h).1
  have hg : ss[i] = s := (List.getElem?_eq_some_iff.1 h).2
  simp [qOut, hi, List.getD, hg]
theorem qNext_length (s : Stp) (l : List It) : (qNext s l).length ≤ l.length + 1 := by
  unfold qNext
  split
  · rw [insBy_length]; omega
  · split
    · omega
    · cases h : qTake s l with
      | none => simp [restOf]
      | some x =>
        simp only [restOf]
        unfold qTake at h
        split at h
        · have := takeBy_length h; omega
        · split at h <;> (have := takeBy_length h; omega)
theorem qSt_length (ss : List Stp) : (qSt ss).length ≤ ss.length := by
  induction h : ss.length generalizing ss with
  | zero => rw [List.eq_nil_of_length_eq_zero h]; simp [qSt]
  | succ n ih =>
    have hne : ss ≠ [] := by intro e; rw [e] at h; simp at h
    have := ih ss.dropLast (by simp; omega)
    rw [← List.dropLast_concat_getLast hne, qSt_snoc]
    have := qNext_length (ss.getLast hne) (qSt ss.dropLast)
    simp at *
    omega
/-- The numbers that are put in. -/
def qPuts (ss : List Stp) : List Nat := (ss.filter fun s => decide (s.what = 0)).map Stp.seq
theorem qNext_mem {s : Stp} {l : List It} {x : It} (h : x ∈ qNext s l) : (s.what = 0 ∧ x = ⟨s.seq, s.time⟩) ∨ x ∈ l := by
  unfold qNext at h
  split at h
  · rename_i h0
    rcases List.mem_cons.1 ((insBy_perm _ _).subset h) with h | h
    · exact .inl ⟨h0, h⟩
    · exact .inr h
  · split at h
    · exact .inr h
    · right
      cases ht : qTake s l with
      | none => rw [ht] at h; exact h
      | some y =>
        rw [ht] at h
        have key : ∀ p : It → Bool, takeBy p l = some y → x ∈ l := by
          intro p hp
          obtain ⟨a, b, e1, e2, _⟩ := takeBy_some (x := y.1) (r := y.2) hp
          simp only [restOf] at h
          rw [e2] at h
          rw [e1]
          simp at h ⊢
          rcases h with h | h
          · exact .inl h
          · exact .inr (.inr h)
        unfold qTake at ht
        split at ht
        · exact key _ ht
        · split at ht <;> exact key _ ht
theorem qPuts_snoc (ss : List Stp) (s : Stp) : qPuts (ss ++ [s]) = qPuts ss ++ if s.what = 0 then [s.seq] else [] := by
  by_cases h : s.what = 0 <;> simp [qPuts, h]
/-- Where all numbers that are put in differ: what lies there is in order. -/
theorem qSt_up : ∀ (n : Nat) (ss : List Stp), ss.length = n → (qPuts ss).Nodup → Up It.n (qSt ss) ∧ ∀ x ∈ qSt ss, x.n ∈ qPuts ss
  | 0, ss, h, _ => by rw [List.eq_nil_of_length_eq_zero h]; simp [qSt, Up]
  | n + 1, ss, h, hd => by
    have hne : ss ≠ [] := by intro e; rw [e] at h; simp at h
    obtain ⟨r, s, rfl⟩ : ∃ r s, ss = r ++ [s] := ⟨_, _, (List.dropLast_concat_getLast hne).symm⟩
    rw [qPuts_snoc] at hd ⊢
    have hd1 := List.nodup_append.1 hd
    obtain ⟨u1, u2⟩ := qSt_up n r (by simpa using h) hd1.1
    rw [qSt_snoc]
    refine ⟨?_, fun x hx => ?_⟩
    · unfold qNext
      split
      · rename_i h0
        refine u1.ins fun y hy e => ?_
        exact hd1.2.2 _ (u2 y hy) s.seq (by simp [h0]) e
      · split
        · exact u1
        · cases ht : qTake s (qSt r) with
          | none => exact u1
          | some y =>
            unfold qTake at ht
            split at ht
            · exact u1.take ht
            · split at ht <;> exact u1.take ht
    · rcases qNext_mem hx with ⟨h0, rfl⟩ | hx
      · simp [h0]
      · exact List.mem_append.2 (.inl (u2 x hx))
end Go.Proofs.Ytlkmmkphpiamcaa
