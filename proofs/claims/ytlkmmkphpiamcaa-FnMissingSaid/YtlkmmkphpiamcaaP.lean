/-
  THE PLAIN LAW of the receive log, whole: what get answers. Condition: the numbers reach less far than the size. By an AI agent.
-/
import Derived.Test.YtlkmmkphpiamcaaO
import Derived.Test.YtlkmmkphpiamcaaL
import Derived.Test.YtlkmmkphpiamcaaE
namespace Go.Proofs.Ytlkmmkphpiamcaa
open Go.RowKit

def Ints (ns : List Nat) : List Int := ns.map fun q : Nat => (q : Int)
theorem ints_get (ns : List Nat) (i : Nat) (h : i < ns.length) : (Ints ns).getD i 0 = (ns[i] : Int) := by
  simp [Ints, List.getD, List.getElem?_eq_getElem h]

theorem topAt_mem (outs : List Int) : ∀ i, i < outs.length → topAt outs i ∈ outs
  | 0, h => by
    simp [topAt, List.getD, List.getElem?_eq_getElem h]
  | i + 1, h => by
    simp only [topAt]
    rcases Int.le_total (topAt outs i) (outs.getD (i + 1) 0) with h1 | h1
    · rw [Int.max_eq_right h1, List.getD, List.getElem?_eq_getElem h]
      exact List.getElem_mem h
    · rw [Int.max_eq_left h1]
      exact topAt_mem outs i (by omega)
theorem topAt_ge (outs : List Int) : ∀ i j, j ≤ i → i < outs.length → outs.getD j 0 ≤ topAt outs i
  | 0, j, h, _ => by
    obtain rfl : j = 0 := by omega
    simp [topAt]
  | i + 1, j, h, hl => by
    simp only [topAt]
    rcases Nat.lt_or_ge i j with h1 | h1
    · obtain rfl : j = i + 1 := by omega
      omega
    · have := topAt_ge outs i j h1 (by omega)
      omega

theorem adds_linv {size f : Nat} {ns : List Nat} {outs : List Int} {L' : Log} {h : Int} (hp : IsPow size) (h32 : size ≤ 32768) (hns : ∀ q ∈ ns, q ≤ 65535) (hline : LineRel (Ints ns) outs)
    (hr : ∀ x ∈ outs, (f : Int) ≤ x ∧ x ≤ h) (hsz : h - f < size) : ∀ (r k : Nat) (M : Log), k + r = ns.length → 0 < k → Adds M (ns.drop k) L' → LInv size f (topAt outs (k - 1)).toNat (outs.take k) M →
      LInv size f (topAt outs (ns.length - 1)).toNat outs L'
  | 0, k, M, hk, h0, hA, hI => by
    have hol : outs.length = ns.length := by simpa [Ints] using hline.1
    rw [List.drop_of_length_le (by omega)] at hA
    obtain rfl : L' = M := hA
    have : k = ns.length := by omega
    subst this
    rw [List.take_of_length_le (by omega)] at hI
    exact hI
  | r + 1, k, M, hk, h0, hA, hI => by
    have hol : outs.length = ns.length := by simpa [Ints] using hline.1
    have hkl : k < ns.length := by omega
    rw [List.drop_eq_getElem_cons hkl] at hA
    obtain ⟨N, hadd, hA2⟩ := hA
    have hl := hline.2 k (by simpa [Ints] using hkl)
    obtain ⟨hy0, _, hy⟩ := hl
    obtain ⟨hy1, hy2⟩ := hy h0
    rw [ints_get ns k hkl] at hy1 hy2
    have htm := hr _ (topAt_mem outs (k - 1) (by omega))
    have hT : ((topAt outs (k - 1)).toNat : Int) = topAt outs (k - 1) := Int.toNat_of_nonneg (by omega)
    have hyk : outs[k]'(by omega) = outs.getD k 0 := by simp [List.getD, List.getElem?_eq_getElem (show k < outs.length by omega)]
    have hym := hr (outs.getD k 0) (by rw [← hyk]; exact List.getElem_mem _)
    have hstep := linv_step hp h32 hI hadd (hns _ (List.getElem_mem hkl)) (y := outs.getD k 0) (by rw [hT]; exact hy1) (by rw [hT]; exact hy2) hym.1 (by rw [hT]; omega)
    have e1 : max (topAt outs (k - 1)).toNat (outs.getD k 0).toNat = (topAt outs k).toNat := by
      obtain ⟨j, rfl⟩ : ∃ j, k = j + 1 := ⟨k - 1, by omega⟩
      simp only [topAt, Nat.add_sub_cancel] at *
      omega
    have e2 : outs.take k ++ [outs.getD k 0] = outs.take (k + 1) := by
      rw [List.take_add_one, List.getElem?_eq_getElem (show k < outs.length by omega), hyk]
      rfl
    rw [e1, e2] at hstep
    exact adds_linv hp h32 hns hline hr hsz r (k + 1) N (by omega) (by omega) hA2 (by simpa using hstep)

/-- The log behind all numbers. -/
theorem log_law {size : Nat} {ns : List Nat} {outs : List Int} {L : Log} {f h : Int} (hp : IsPow size) (h32 : size ≤ 32768) (hns : ∀ q ∈ ns, q ≤ 65535) (hline : LineRel (Ints ns) outs)
    (hE : EndsFact outs f h size) (hA : Adds (freshLog size) ns L) : ∃ F T : Nat, f = F ∧ h = T ∧ LInv size F T outs L := by
  obtain ⟨hf, hm, hr, hsz⟩ := hE
  have hol : outs.length = ns.length := by simpa [Ints] using hline.1
  have hpos : 0 < ns.length := by
    rcases Nat.eq_zero_or_pos ns.length with h0 | h0
    · rw [List.eq_nil_of_length_eq_zero (by omega : outs.length = 0)] at hm
      cases hm
    · exact h0
  have h00 := hline.2 0 (by simpa [Ints] using hpos)
  have hf0 : f = (ns[0] : Int) := by rw [hf, h00.2.1 rfl, ints_get ns 0 hpos]
  obtain ⟨s, r, hsr⟩ : ∃ s r, ns = s :: r := by
    cases ns with
    | nil => simp at hpos
    | cons s r => exact ⟨s, r, rfl⟩
  have hs0 : ns[0] = s := by simp [hsr]
  have hs := hns s (by simp [hsr])
  rw [hs0] at hf0
  have hA' := hA
  rw [hsr] at hA'
  obtain ⟨M, hadd, hA2⟩ := hA'
  rw [AddRel, if_pos (show (freshLog size).started = false from rfl)] at hadd
  have ho0 : outs.getD 0 0 = (s : Int) := by rw [← hf, hf0]
  have hI : LInv size s (topAt outs (1 - 1)).toNat (outs.take 1) M := by
    have e1 : (topAt outs (1 - 1)).toNat = s := by simp only [Nat.sub_self, topAt]; omega
    have e2 : outs.take 1 = [(s : Int)] := by
      cases outs with
      | nil => simp at hol; omega
      | cons a t => simp [List.getD] at ho0; simp [ho0]
    rw [e1, e2, hadd]
    refine ⟨rfl, rfl, by show s = s % 65536; omega, fun n h1 h2 => ?_, ⟨s, Nat.le_refl _, Nat.le_refl _, by show s = s % 65536; omega, fun n h1 h2 => ?_, .inl rfl⟩, by simp, fun x hx => ?_⟩
    · obtain rfl : n = s := by omega
      simp [Log.mark, freshLog]
    · obtain rfl : n = s := by omega
      simp
    · simp at hx
      omega
  have hfin := adds_linv hp h32 hns hline (f := s) (h := h) (fun x hx => by have := hr x hx; omega) (by omega) (ns.length - 1) 1 M (by omega) (by omega) (by simpa [hsr] using hA2) hI
  have hT : topAt outs (ns.length - 1) = h := by
    have h1 := (hr _ (topAt_mem outs (ns.length - 1) (by omega))).2
    obtain ⟨j, hj, hj2⟩ := List.mem_iff_getElem.1 hm
    have h2 := topAt_ge outs (ns.length - 1) j (by omega) (by omega)
    rw [List.getD, List.getElem?_eq_getElem hj] at h2
    simp at h2
    omega
  rw [hT] at hfin
  have h0 : 0 ≤ h := by have := hr h hm; omega
  exact ⟨s, h.toNat, hf0, (Int.toNat_of_nonneg h0).symm, hfin⟩

theorem gets_law {size F T : Nat} {outs : List Int} {L : Log} {q : Nat} (hp : IsPow size) (hI : LInv size F T outs L) (hsz : T < F + size) (h32 : size ≤ 32768) (hq : q ≤ 65535)
    (hlo : (F : Int) ≤ (T : Int) + nearD T q) (hhi : (T : Int) + nearD T q ≤ T) : L.gets q = decide ((T : Int) + nearD T q ∈ outs) := by
  obtain ⟨hdv, hs0⟩ := pow_dvd hp
  obtain ⟨N, hN⟩ : ∃ N : Nat, (T : Int) + nearD T q = N := ⟨((T : Int) + nearD T q).toNat, by omega⟩
  rw [hN] at hlo hhi ⊢
  have hNq : N % 65536 = q := by unfold nearD at hN; omega
  have hb := hI.bits N (by omega) (by omega)
  have hD : (L.top + (65536 - q)) % 65536 = T - N := by rw [hI.top]; omega
  unfold Log.gets
  rw [hD, decide_eq_true (by rw [hI.size_]; omega), Bool.true_and, Log.has, hI.size_, ← hNq, mod_size hdv]
  cases h : L.bits (N % size) with
  | true => rw [decide_eq_true (hb.1 h)]
  | false =>
    rw [decide_eq_false]
    intro hm
    rw [hb.2 hm] at h
    cases h
end Go.Proofs.Ytlkmmkphpiamcaa
