/-
  The plain law of the jitter buffer. No condition. By an AI agent.
-/
import Derived.Test.YtlkmmkphpiamcaaQp
namespace Go.Proofs.Ytlkmmkphpiamcaa

/-- A jitter buffer: how many packets it wants, the number to be taken next, whether it emits, what lies in it. -/
structure JS where
  mn : Nat
  head : Nat
  em : Bool
  its : List It
def jPush (s : It) (d : JS) : JS := ⟨d.mn, if d.em = false ∧ d.its = [] then s.n else d.head, d.em || decide (d.mn ≤ d.its.length + 1), insBy It.n s d.its⟩
def jHit (d : JS) : Option (It × List It) := if d.em then takeBy (fun x => decide (x.n = d.head)) d.its else none
def jPop (d : JS) : JS := match jHit d with
  | none => d
  | some y => ⟨d.mn, (d.head + 1) % 65536, d.em, y.2⟩
def jAns (s : Stp) (d : JS) : An := if s.what = 0 then ⟨true, 0, 0⟩ else anOf ((jHit d).map Prod.fst)
def jNext (s : Stp) (d : JS) : JS := if s.what = 0 then jPush ⟨s.seq, s.time⟩ d else jPop d
def jSt (mn : Nat) (ss : List Stp) : JS := ss.foldl (fun d s => jNext s d) ⟨mn, 0, false, []⟩
def jOut (mn : Nat) (ss : List Stp) : List An := (List.range ss.length).map fun i => jAns (ss.getD i ⟨0, 0, 0⟩) (jSt mn (ss.take i))
theorem jSt_snoc (mn : Nat) (ss : List Stp) (s : Stp) : jSt mn (ss ++ [s]) = jNext s (jSt mn ss) := by simp [jSt, List.foldl_append]
theorem jSt_take {mn : Nat} {ss : List Stp} {i : Nat} {s : Stp} (h : ss[i]? = some s) : jSt mn (ss.take (i + 1)) = jNext s (jSt mn (ss.take i)) := by
  rw [List.take_add_one, h, Option.toList_some, jSt_snoc]
theorem jOut_snoc (mn : Nat) (ss : List Stp) (s : Stp) : jOut mn (ss ++ [s]) = jOut mn ss ++ [jAns s (jSt mn ss)] := by
  unfold jOut
  rw [List.length_append, List.length_singleton, List.range_succ, List.map_append]
  congr 1
  · apply List.map_congr_left
    intro i hi
    have hi := List.mem_range.1 hi
    rw [List.take_append_of_le_length (by omega)]
    congr 1
    simp [List.getD, List.getElem?_append_left hi]
  · simp [List.getD]
theorem jOut_take {mn : Nat} {ss : List Stp} {i : Nat} {s : Stp} (h : ss[i]? = some s) : jOut mn (ss.take (i + 1)) = jOut mn (ss.take i) ++ [jAns s (jSt mn (ss.take i))] := by
  rw [List.take_add_one, h, Option.toList_some, jOut_snoc]
theorem jOut_get {mn : Nat} {ss : List Stp} {i : Nat} {s : Stp} (h : ss[i]? = some s) : (jOut mn ss)[i]? = some (jAns s (jSt mn (ss.take i))) := by
  have hi := (List.getElem?_eq_some_iff.1 h).1
  have hg : ss[i] = s := (List.getElem?_eq_some_iff.1 h).2
  simp [jOut, hi, List.getD, hg]
theorem jNext_mn (s : Stp) (d : JS) : (jNext s d).mn = d.mn := by
  unfold jNext jPush jPop
  split
  · rfl
  · split <;> rfl
theorem jNext_len (s : Stp) (d : JS) : (jNext s d).its.length ≤ d.its.length + 1 := by
  unfold jNext jPush jPop
  split
  · simp only [insBy_length]; omega
  · cases h : jHit d with
    | none => simp
    | some y =>
      simp only
      unfold jHit at h
      split at h
      · have := takeBy_length (x := y.1) (r := y.2) h
        omega
      · cases h
theorem jSt_len (mn : Nat) : ∀ (n : Nat) (ss : List Stp), ss.length = n → (jSt mn ss).its.length ≤ n ∧ (jSt mn ss).mn = mn
  | 0, ss, h => by rw [List.eq_nil_of_length_eq_zero h]; simp [jSt]
  | n + 1, ss, h => by
    have hne : ss ≠ [] := by intro e; rw [e] at h; simp at h
    obtain ⟨r, s, rfl⟩ : ∃ r s, ss = r ++ [s] := ⟨_, _, (List.dropLast_concat_getLast hne).symm⟩
    have h1 := jSt_len mn n r (by simpa using h)
    rw [jSt_snoc]
    have h2 := jNext_len s (jSt mn r)
    exact ⟨by omega, by rw [jNext_mn]; exact h1.2⟩

/-- The calls of the law: packets are put in, then as often one is taken. -/
def jCalls (ps : List Nat) (m : Nat) : List Stp := (ps.map fun p => ⟨0, p, 1⟩) ++ List.replicate m ⟨1, 0, 0⟩
theorem jCalls_take (ps : List Nat) (m i : Nat) (h : i ≤ m) : (jCalls ps m).take (ps.length + i) = jCalls ps i := by
  unfold jCalls
  rw [List.take_append, List.take_of_length_le (by simp)]
  congr 1
  rw [List.take_replicate]
  congr 1
  simp
  omega
theorem jCalls_get (ps : List Nat) (m i : Nat) (h : i < m) : (jCalls ps m)[ps.length + i]? = some ⟨1, 0, 0⟩ := by
  unfold jCalls
  rw [List.getElem?_append_right (by simp)]
  simp [h]
theorem jCalls_len (ps : List Nat) (m : Nat) : (jCalls ps m).length = ps.length + m := by simp [jCalls]

/-- All put in. -/
theorem jPushed (mn : Nat) (hmn : 1 ≤ mn) (p : Nat) : ∀ (n : Nat) (r : List Nat), r.length = n →
    (jSt mn (jCalls (p :: r) 0)).head = p ∧ ((jSt mn (jCalls (p :: r) 0)).its.map It.n).Perm (p :: r) ∧ (jSt mn (jCalls (p :: r) 0)).em = decide (mn ≤ r.length + 1)
  | 0, r, h => by
    rw [List.eq_nil_of_length_eq_zero h]
    simp [jCalls, jSt, jNext, jPush, insBy]
  | n + 1, r, h => by
    have hne : r ≠ [] := by intro e; rw [e] at h; simp at h
    obtain ⟨r', q, rfl⟩ : ∃ r' q, r = r' ++ [q] := ⟨_, _, (List.dropLast_concat_getLast hne).symm⟩
    obtain ⟨h1, h2, h3⟩ := jPushed mn hmn p n r' (by simpa using h)
    have e : jCalls (p :: (r' ++ [q])) 0 = jCalls (p :: r') 0 ++ [⟨0, q, 1⟩] := by simp [jCalls]
    have hl := jSt_len mn _ (jCalls (p :: r') 0) rfl
    have hlen := h2.length_eq
    simp only [List.length_map, List.length_cons] at hlen
    rw [e, jSt_snoc]
    generalize jSt mn (jCalls (p :: r') 0) = d at *
    unfold jNext jPush
    simp only [if_true]
    refine ⟨?_, ?_, ?_⟩
    · rw [if_neg (by rintro ⟨_, e0⟩; rw [e0] at hlen; simp at hlen)]
      exact h1
    · have h4 := (insBy_perm (k := It.n) ⟨q, 1⟩ d.its).map It.n
      refine h4.trans ?_
      simp only [List.map_cons]
      refine (h2.cons q).trans ?_
      have := (List.perm_middle (a := q) (l₁ := p :: r') (l₂ := [])).symm
      simpa using this
    · rw [h3, hlen, hl.2]
      simp
      omega

/-- So many taken. -/
theorem jPopped (mn p : Nat) (r : List Nat) (hmn : 1 ≤ mn) (hd : (p :: r).Nodup) (hall : ∀ i, i < r.length + 1 → (p + i) % 65536 ∈ p :: r) (hp : p ≤ 65535) (hr : r.length + 1 ≤ 65536) (hem : mn ≤ r.length + 1) : ∀ m, m ≤ r.length + 1 →
    (jSt mn (jCalls (p :: r) m)).em = true ∧ (jSt mn (jCalls (p :: r) m)).head = (p + m) % 65536 ∧ ((jSt mn (jCalls (p :: r) m)).its.map It.n).Nodup ∧
    (∀ i, m ≤ i → i < r.length + 1 → (p + i) % 65536 ∈ (jSt mn (jCalls (p :: r) m)).its.map It.n)
  | 0, _ => by
    obtain ⟨h1, h2, h3⟩ := jPushed mn hmn p _ r rfl
    refine ⟨by rw [h3]; simpa using hem, by rw [h1]; omega, (h2.nodup_iff).2 hd, fun i _ hi => (h2.mem_iff).2 (hall i hi)⟩
  | m + 1, hm => by
    obtain ⟨h1, h2, h3, h4⟩ := jPopped mn p r hmn hd hall hp hr hem m (by omega)
    have e : jCalls (p :: r) (m + 1) = jCalls (p :: r) m ++ [⟨1, 0, 0⟩] := by
      simp only [jCalls, List.replicate_succ', List.append_assoc]
    rw [e, jSt_snoc]
    generalize jSt mn (jCalls (p :: r) m) = d at *
    have hmem := h4 m (Nat.le_refl _) (by omega)
    rw [← h2] at hmem
    obtain ⟨y, hy, hyn⟩ := List.mem_map.1 hmem
    unfold jNext jPop
    simp only [show ¬ (1 = 0) by omega, if_false]
    cases ht : jHit d with
    | none =>
      exfalso
      unfold jHit at ht
      rw [if_pos h1] at ht
      have := takeBy_no ht y hy
      simp [hyn] at this
    | some z =>
      unfold jHit at ht
      rw [if_pos h1] at ht
      obtain ⟨a, b, e1, e2, e3, _⟩ := takeBy_some (x := z.1) (r := z.2) ht
      simp only
      have hz : z.1.n = d.head := by simpa using e3
      rw [e1] at h3 h4
      simp only [List.map_append, List.map_cons] at h3 h4
      refine ⟨h1, by rw [h2]; omega, ?_, fun i hi hl => ?_⟩
      · rw [e2, List.map_append]
        exact h3.sublist (List.Sublist.append_left (List.sublist_cons_self _ _) _)
      · have hi2 := h4 i (by omega) hl
        rw [e2, List.map_append]
        simp only [List.mem_append, List.mem_cons] at hi2 ⊢
        rcases hi2 with h | h | h
        · exact .inl h
        · rw [hz, h2] at h
          omega
        · exact .inr h
/-- THE PLAIN LAW: what each taking gives. -/
theorem j_law (mn p : Nat) (r : List Nat) (hmn : 1 ≤ mn) (hd : (p :: r).Nodup) (hall : ∀ i, i < r.length + 1 → (p + i) % 65536 ∈ p :: r) (hp : p ≤ 65535) (hr : r.length + 1 ≤ 65536) (i : Nat) (hi : i < r.length + 1) :
    (jOut mn (jCalls (p :: r) (r.length + 1)))[r.length + 1 + i]? = some (if mn ≤ r.length + 1 then ⟨true, (p + i) % 65536, 0⟩ else ⟨false, 0, 0⟩) := by
  have hg := jCalls_get (p :: r) (r.length + 1) i hi
  have h1 := jOut_get (mn := mn) hg
  have hl : (p :: r).length = r.length + 1 := rfl
  rw [hl] at h1
  rw [h1]
  have ht := jCalls_take (p :: r) (r.length + 1) i (by omega)
  rw [hl] at ht
  rw [ht]
  congr 1
  unfold jAns
  simp only [show ¬ (1 = 0) by omega, if_false]
  by_cases hem : mn ≤ r.length + 1
  · rw [if_pos hem]
    obtain ⟨h1, h2, h3, h4⟩ := jPopped mn p r hmn hd hall hp hr hem i (by omega)
    generalize jSt mn (jCalls (p :: r) i) = d at *
    have hmem := h4 i (Nat.le_refl _) hi
    rw [← h2] at hmem
    obtain ⟨y, hy, hyn⟩ := List.mem_map.1 hmem
    cases ht : jHit d with
    | none =>
      exfalso
      unfold jHit at ht
      rw [if_pos h1] at ht
      have := takeBy_no ht y hy
      simp [hyn] at this
    | some z =>
      unfold jHit at ht
      rw [if_pos h1] at ht
      obtain ⟨a, b, e1, e2, e3, _⟩ := takeBy_some (x := z.1) (r := z.2) ht
      have hz : z.1.n = d.head := by simpa using e3
      simp [anOf, hz, h2]
  · rw [if_neg hem]
    have key : ∀ m, (jSt mn (jCalls (p :: r) m)).em = false := by
      intro m
      induction m with
      | zero =>
        obtain ⟨_, _, h3⟩ := jPushed mn hmn p _ r rfl
        rw [h3]
        simpa using hem
      | succ m ih =>
        have e : jCalls (p :: r) (m + 1) = jCalls (p :: r) m ++ [⟨1, 0, 0⟩] := by
          simp only [jCalls, List.replicate_succ', List.append_assoc]
        rw [e, jSt_snoc]
        unfold jNext jPop jHit
        simp [ih]
    unfold jHit
    rw [key i]
    rfl
end Go.Proofs.Ytlkmmkphpiamcaa
