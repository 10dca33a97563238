/-
  FnJitter: plain words. No condition. By an AI agent.
-/
import Derived.Test.YtlkmmkphpiamcaaJh
import Derived.Test.YtlkmmkphpiamcaaJi
namespace Go.Proofs.Ytlkmmkphpiamcaa
open Go.RowKit

def stL (l : List Stp) : List Value := l.flatMap fun s => [.int .i64 s.what, .int .u16 s.seq, .int .u32 s.time]
theorem stL_append (a b : List Stp) : stL (a ++ b) = stL a ++ stL b := by simp [stL]
theorem stL_at {l : List Stp} {j : Nat} {x : Stp} (h : l[j]? = some x) : (stL l)[j * 3]? = some (.int .i64 x.what) ∧ (stL l)[j * 3 + 1]? = some (.int .u16 x.seq) ∧ (stL l)[j * 3 + 2]? = some (.int .u32 x.time) := by
  induction l generalizing j with
  | nil => simp at h
  | cons y l ih =>
    cases j with
    | zero => simp at h; subst h; simp [stL]
    | succ j =>
      have := ih (j := j) (by simpa using h)
      have e : (j + 1) * 3 = j * 3 + 1 + 1 + 1 := by omega
      rw [e]
      simpa [stL] using this
theorem info_step : (Try.prog.info? 45).map (fun i => (i.zero, i.size, i.bytes)) = some (some (.agg #[.int .i64 0, .int .u16 0, .int .u32 0]), 3, 16) := by kernel_rfl
theorem own_steps {w : World} {base n c : Nat} {A : Option Addr} {ss : List Stp} (h : w.ownsRow base 45 3 (.slice A n c) n (stL ss)) (hl : ss.length = n) : StepsAt w w.heap.size A n ss := by
  refine ⟨hl, fun hn => ?_⟩
  obtain ⟨g, cap, hv, _, hg⟩ := h.form hn
  injection hv with hA _ _
  subst hA
  have hc : ∀ j u, (stL ss)[j]? = some u → w.cell? ⟨g, j, none⟩ = some u := fun j u hu => by
    have h := h.cells (g := g) rfl j u hu
    have hadd : (⟨g, 0, none⟩ : Addr).add j = ⟨g, j, none⟩ := by unfold Addr.add; split <;> simp_all
    rwa [hadd] at h
  refine ⟨g, 0, rfl, hg, fun j s hs => ?_⟩
  obtain ⟨h0, h1, h2⟩ := stL_at hs
  simp only [Nat.zero_add]
  exact ⟨hc _ _ h0, hc _ _ h1, hc _ _ h2⟩

/-- The numbers that are put in behind the first. -/
def jRest (p : Nat) (qs : List Nat) : List Nat := qs.map fun q => (p + q + 1) % 65536
theorem jRest_facts (p n : Nat) (hp : p ≤ 65535) (hn : n ≤ 40) {qs : List Nat} (h : qs.Perm (List.range n)) :
    (p :: jRest p qs).Nodup ∧ (∀ i, i < (jRest p qs).length + 1 → (p + i) % 65536 ∈ p :: jRest p qs) ∧ (jRest p qs).length = n := by
  have hlen : qs.length = n := by rw [h.length_eq, List.length_range]
  have hmem : ∀ q, q ∈ qs ↔ q < n := fun q => by rw [h.mem_iff, List.mem_range]
  refine ⟨?_, fun i hi => ?_, by simp [jRest, hlen]⟩
  · refine List.nodup_cons.2 ⟨fun e => ?_, ?_⟩
    · obtain ⟨q, hq, he⟩ := List.mem_map.1 e
      have := (hmem q).1 hq
      omega
    · have hr : (jRest p qs).Perm (jRest p (List.range n)) := h.map _
      rw [hr.nodup_iff, List.nodup_iff_pairwise_ne, List.pairwise_iff_getElem]
      intro i j hi hj hij e
      simp [jRest] at hi hj e
      omega
  · have hi' : i < n + 1 := by simpa [jRest, hlen] using hi
    cases i with
    | zero =>
      rw [show (p + 0) % 65536 = p by omega]
      simp
    | succ q =>
      refine List.mem_cons.2 (.inr (List.mem_map.2 ⟨q, (hmem q).2 (by omega), ?_⟩))
      rw [show p + (q + 1) = p + q + 1 by omega]
theorem jc_cons (p : Nat) (qs : List Nat) (k : Nat) {q : Nat} (hq : qs[k]? = some q) : jCalls (p :: jRest p (qs.take (k + 1))) 0 = jCalls (p :: jRest p (qs.take k)) 0 ++ [⟨0, (p + q + 1) % 65536, 1⟩] := by
  rw [List.take_add_one, hq]
  simp [jCalls, jRest]
theorem jc_pop (ps : List Nat) (j : Nat) : jCalls ps (j + 1) = jCalls ps j ++ [⟨1, 0, 0⟩] := by
  simp only [jCalls, List.replicate_succ', List.append_assoc]
theorem jc_ok (ps : List Nat) (m : Nat) (h : ∀ p ∈ ps, p ≤ 65535) : ∀ s ∈ jCalls ps m, s.what ≤ 1 ∧ s.seq ≤ 65535 ∧ s.time ≤ 4294967295 := by
  intro s hs
  rcases List.mem_append.1 hs with hs | hs
  · obtain ⟨p, hp, rfl⟩ := List.mem_map.1 hs
    exact ⟨by simp, h p hp, by simp⟩
  · obtain ⟨_, rfl⟩ := List.mem_replicate.1 hs
    simp
end Go.Proofs.Ytlkmmkphpiamcaa
