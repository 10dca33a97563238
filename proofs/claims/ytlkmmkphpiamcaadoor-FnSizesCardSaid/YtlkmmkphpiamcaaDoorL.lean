/-
  The plain law of the packet buffer: under a number it has the packet that came with it. By an AI agent.
-/
import Derived.Test.YtlkmmkphpiamcaaDoorI
import Derived.Test.YtlkmmkphpiamcaaDoorJ
namespace Go.Proofs.YtlkmmkphpiamcaaDoor
open Go.RowKit

theorem same_slot {a b size : Int} (hs : 0 < size) (h : a % size = b % size) (h1 : a ≤ b) (h2 : b - a < size) : a = b := by
  have h3 : (b - a) % size = 0 := by
    rw [Int.sub_emod, h, Int.sub_self, Int.zero_emod]
  rw [Int.emod_eq_of_lt (by omega) h2] at h3
  omega
theorem same_slot' {a b size : Int} (hs : 0 < size) (h : a % size = b % size) (h1 : a - b < size) (h2 : b - a < size) : a = b := by
  rcases Int.le_total a b with h3 | h3
  · exact same_slot hs h h3 h2
  · exact (same_slot hs h.symm h3 h1).symm

theorem clears_calm {R : RB} {t d : Nat} (h : ∀ e, e < d → R.slots ((t + 1 + e) % 65536 % R.size) = none) : ∀ r, (R.clears t d).slots r = R.slots r := by
  induction d with
  | zero => exact fun _ => rfl
  | succ d ih =>
    intro r
    have ih := ih (fun e he => h e (by omega))
    simp only [RB.clears, RB.put]
    split
    · rename_i hr
      rw [hr]
      exact (h d (by omega)).symm
    · exact ih r

structure SlotInv (size : Nat) (xs : List Int) (i : Nat) (R : RB) : Prop where
  top : 0 < i → (R.top : Int) = topAt xs (i - 1) % 65536
  st : R.started = decide (0 < i)
  only : ∀ r k, R.slots r = some k → ∃ x, xs[k.idx]? = some x ∧ k.idx < i ∧ (k.seq : Int) = x % 65536 ∧ (r : Int) = x % size
  all : ∀ j x, j < i → xs[j]? = some x → ∃ k, R.slots (x % size).toNat = some k ∧ k.idx = j ∧ (k.seq : Int) = x % 65536

theorem pow_dvd {size : Nat} (h : IsPow size) : ((size : Nat) : Int) ∣ 65536 := by
  obtain ⟨i, hi, rfl⟩ := h
  have : 2 ^ i ∣ 65536 := by
    have : (65536 : Nat) = 2 ^ 16 := by decide
    rw [this]
    exact Nat.pow_dvd_pow 2 (by omega)
  exact Int.natCast_dvd_natCast.2 this

/-- A packet put where nothing was. -/
theorem inv_put {size : Nat} {xs : List Int} {i : Nat} {R R' : RB} {k : Pkt} {x : Int} (hs : 0 < size) (h : SlotInv size xs i R) (hx : xs[i]? = some x) (hki : k.idx = i) (hks : (k.seq : Int) = x % 65536)
    (hr : ((k.seq % size : Nat) : Int) = x % size) (hnew : ∀ j z, j < i → xs[j]? = some z → z % size ≠ x % size)
    (hst : R'.started = true) (htop : (R'.top : Int) = topAt xs i % 65536) (hsl : ∀ r, R'.slots r = if r = k.seq % size then some k else R.slots r) : SlotInv size xs (i + 1) R' := by
  refine ⟨fun _ => htop, by simp [hst], fun r k' hk' => ?_, fun j z hj hz => ?_⟩
  · rw [hsl] at hk'
    split at hk'
    · injection hk' with hk'
      subst hk'
      rename_i hrr
      exact ⟨x, by rw [hki]; exact hx, by omega, hks, by rw [hrr]; exact hr⟩
    · obtain ⟨z, h1, h2, h3, h4⟩ := h.only r k' hk'
      exact ⟨z, h1, by omega, h3, h4⟩
  · have hz0 : 0 ≤ z % (size : Int) := Int.emod_nonneg _ (by omega)
    rcases Nat.lt_or_ge j i with h1 | h1
    · obtain ⟨k', h2, h3, h4⟩ := h.all j z h1 hz
      refine ⟨k', ?_, h3, h4⟩
      rw [hsl, if_neg ?_]
      · exact h2
      · intro e
        have := hnew j z h1 hz
        omega
    · obtain rfl : j = i := by omega
      rw [hx] at hz
      injection hz with hz
      subst hz
      refine ⟨k, ?_, hki, hks⟩
      rw [hsl, if_pos (by omega)]

theorem slot_inv {size : Nat} {ns : List Nat} {xs : List Int} {f h : Int} (hp : IsPow size) (hs0 : 64 ≤ size) (hs1 : size ≤ 32768) (hns : ∀ q ∈ ns, q ≤ 65535) (hl : LineRel (Ints ns) xs) (hd : Distinct xs)
    (he : EndsFact xs f h size) {i : Nat} {R : RB} (hF : Fed size ns i R) : SlotInv size xs i R := by
  have hdv := pow_dvd hp
  have hlen : xs.length = ns.length := by have := hl.1; simpa [Ints] using this
  induction hF with
  | zero => exact ⟨fun h => absurd h (by omega), rfl, fun r k h => by simp [freshBuf] at h, fun j x hj => absurd hj (by omega)⟩
  | @succ i R k hF hks hki ih =>
    obtain ⟨hi, hsq⟩ := List.getElem?_eq_some_iff.1 hks
    have hs65 : k.seq ≤ 65535 := hns _ (List.mem_of_getElem? hks)
    have hix : i < xs.length := by omega
    have hx : xs[i]? = some (xs.getD i 0) := by simp [List.getD, List.getElem?_eq_getElem hix]
    obtain ⟨x, hxx⟩ : ∃ x, xs.getD i 0 = x := ⟨_, rfl⟩
    rw [hxx] at hx
    have hRs := hF.same.1
    obtain ⟨l0, l1, l2⟩ := hl.2 i (by simpa [Ints] using hi)
    have hni : (Ints ns).getD i 0 = (k.seq : Int) := by rw [ints_get ns i hi, hsq]
    rw [hxx] at l0 l1 l2
    rw [hni] at l1 l2
    have hbx := he.2.2.1 x (List.mem_of_getElem? hx)
    have hspan := he.2.2.2
    have hnew : ∀ j z, j < i → xs[j]? = some z → z % size ≠ x % size := by
      intro j z hj hz e
      have hbz := he.2.2.1 z (List.mem_of_getElem? hz)
      have := same_slot' (by omega) e (by omega) (by omega)
      subst this
      refine hd i z hx ?_
      exact List.mem_of_getElem? (i := j) (by rw [List.getElem?_take, if_pos hj]; exact hz)
    rcases Nat.eq_zero_or_pos i with h0 | h0
    · have l1 := l1 h0
      have hks2 : (k.seq : Int) = x % 65536 := by omega
      have hr : ((k.seq % size : Nat) : Int) = x % size := by rw [Int.natCast_emod, l1]
      have hst : R.started = false := by rw [ih.st]; simp [h0]
      refine inv_put (by omega) ih hx hki hks2 hr hnew (radd_same _ _).2 ?_ ?_
      · rw [RB.add, if_pos hst]
        subst h0
        simp only [topAt]
        rw [hxx]
        exact hks2
      · intro r
        rw [RB.add, if_pos hst, hRs]
        rfl
    · obtain ⟨l2, l3⟩ := l2 h0
      obtain ⟨T, hT⟩ : ∃ T, topAt xs (i - 1) = T := ⟨_, rfl⟩
      have htop := ih.top h0
      rw [hT] at l2 l3 htop
      have hks2 : (k.seq : Int) = x % 65536 := by
        unfold nearD at l2 l3
        omega
      have hr : ((k.seq % size : Nat) : Int) = x % size := by rw [Int.natCast_emod, hks2, Int.emod_emod_of_dvd _ hdv]
      have hst : R.started = true := by rw [ih.st]; simp [h0]
      have hTm : T ∈ xs.take i := by
        have := topAt_mem (xs.take i) (i - 1) (by rw [List.length_take]; omega)
        have e : topAt (xs.take i) (i - 1) = T := by
          rw [← hT]
          conv => rhs; rw [← List.take_append_drop i xs]
          exact (topAt_append _ _ _ (by rw [List.length_take]; omega)).symm
        rwa [e] at this
      have hTx : T ≠ x := fun e => hd i x hx (e ▸ hTm)
      have hti : topAt xs i = max T x := by
        obtain ⟨i', rfl⟩ : ∃ i', i = i' + 1 := ⟨i - 1, by omega⟩
        simp only [topAt]
        rw [hxx]
        simp at hT
        rw [hT]
      have hnr := nearD_range T k.seq
      have hbT := he.2.2.1 T (List.mem_of_mem_take hTm)
      obtain ⟨D, hD⟩ : ∃ D, (k.seq + (65536 - R.top)) % 65536 = D := ⟨_, rfl⟩
      have ht65 : R.top ≤ 65535 := by omega
      rcases Int.lt_or_lt_of_ne hTx with hlt | hgt
      · have hDx : (D : Int) = x - T := by
          have : (((k.seq + (65536 - R.top)) % 65536 : Nat) : Int) = (x - T) % 65536 := by omega
          rw [hD] at this
          rw [this]
          omega
        have hcalm : ∀ e, e < D - 1 → R.slots ((R.top + 1 + e) % 65536 % R.size) = none := by
          intro e hed
          cases hsl : R.slots ((R.top + 1 + e) % 65536 % R.size) with
          | none => rfl
          | some k' =>
            obtain ⟨z, h1, h2, _, h4⟩ := ih.only _ _ hsl
            have hbz := he.2.2.1 z (List.mem_of_getElem? h1)
            have hzT : z ≤ T := by
              have := topAt_ge xs (i - 1) k'.idx (by omega) (by omega)
              rw [hT] at this
              have e2 : xs.getD k'.idx 0 = z := by simp [List.getD, h1]
              omega
            rw [hRs] at h4
            have e3 : (((R.top + 1 + e) % 65536 % size : Nat) : Int) = (T + 1 + e) % size := by
              rw [Int.natCast_emod, Int.natCast_emod]
              have e4 : ((R.top + 1 + e : Nat) : Int) % ((65536 : Nat) : Int) = (T + 1 + e) % 65536 := by omega
              rw [e4, Int.emod_emod_of_dvd _ hdv]
            rw [e3] at h4
            have := same_slot (by omega) h4.symm (by omega) (by omega)
            omega
        refine inv_put (by omega) ih hx hki hks2 hr hnew (radd_same _ _).2 ?_ ?_
        · rw [RB.add, if_neg (by simp [hst]), hD, if_neg (by omega), if_pos (by omega), hti]
          show (k.seq : Int) = _
          rw [hks2, Int.max_eq_right (by omega)]
        · intro r
          rw [RB.add, if_neg (by simp [hst]), hD, if_neg (by omega), if_pos (by omega), hRs]
          show (if r = k.seq % size then some k else (R.clears R.top (D - 1)).slots r) = _
          rw [clears_calm hcalm]
      · have hDx : (D : Int) = 65536 + (x - T) := by
          have : (((k.seq + (65536 - R.top)) % 65536 : Nat) : Int) = (x - T) % 65536 := by omega
          rw [hD] at this
          rw [this]
          omega
        refine inv_put (by omega) ih hx hki hks2 hr hnew (radd_same _ _).2 ?_ ?_
        · rw [RB.add, if_neg (by simp [hst]), hD, if_neg (by omega), if_neg (by omega), hti]
          show (R.top : Int) = _
          rw [htop, Int.max_eq_left (by omega)]
        · intro r
          rw [RB.add, if_neg (by simp [hst]), hD, if_neg (by omega), if_neg (by omega), hRs]
          rfl

theorem ret_law {size : Nat} {ns : List Nat} {xs : List Int} {f h : Int} {R : RB} {q : Nat} (hp : IsPow size) (hs0 : 64 ≤ size) (hs1 : size ≤ 32768) (hns : ∀ q ∈ ns, q ≤ 65535) (hl : LineRel (Ints ns) xs) (hd : Distinct xs)
    (he : EndsFact xs f h size) (hF : Fed size ns ns.length R) (hq : q ≤ 65535) (hnd : nearD h q ≠ -32768) :
    (h + nearD h q ∉ xs → outOf R q = -1) ∧ (∀ i : Nat, xs[i]? = some (h + nearD h q) → outOf R q = i) := by
  have hdv := pow_dvd hp
  have hI := slot_inv hp hs0 hs1 hns hl hd he hF
  have hRs := hF.same.1
  have hlen : xs.length = ns.length := by have := hl.1; simpa [Ints] using this
  obtain ⟨e1, e2, e3, e4⟩ := he
  have hn0 : 0 < ns.length := by
    rw [← hlen]
    exact List.length_pos_of_mem e2
  have hT : topAt xs (ns.length - 1) = h := by
    have h1 := (e3 _ (topAt_mem xs (ns.length - 1) (by omega))).2
    obtain ⟨j, hj, hjx⟩ := List.mem_iff_getElem.1 e2
    have h2 := topAt_ge xs (ns.length - 1) j (by omega) (by omega)
    have h3 : xs.getD j 0 = h := by simp [List.getD, List.getElem?_eq_getElem hj, hjx]
    omega
  have htop := hI.top hn0
  rw [hT] at htop
  have ht65 : R.top ≤ 65535 := by omega
  have hnr := nearD_range h q
  obtain ⟨y, hy⟩ : ∃ y, h + nearD h q = y := ⟨_, rfl⟩
  rw [hy]
  have hyq : y % 65536 = (q : Int) := by
    unfold nearD at hy hnd
    omega
  obtain ⟨D, hD⟩ : ∃ D, (R.top + (65536 - q)) % 65536 = D := ⟨_, rfl⟩
  have hDy : (D : Int) = (h - y) % 65536 := by
    rw [← hD]
    omega
  constructor
  · intro hno
    have : R.get q = none := by
      rw [RB.get, hD, hRs]
      split
      · rename_i hlt
        split
        · rfl
        · rename_i k hsl
          split
          · rename_i hkq
            obtain ⟨z, h1, _, h3, _⟩ := hI.only _ _ hsl
            have hz := e3 z (List.mem_of_getElem? h1)
            have hzy : z = y := by omega
            exact absurd (hzy ▸ List.mem_of_getElem? h1) hno
          · rfl
      · rfl
    rw [outOf, this]
  · intro i hi
    have hz := e3 y (List.mem_of_getElem? hi)
    have hil : i < ns.length := by
      rw [← hlen]
      exact (List.getElem?_eq_some_iff.1 hi).1
    obtain ⟨k, h1, h2, h3⟩ := hI.all i y hil hi
    have hsq : (y % (size : Int)).toNat = q % size := by
      have : ((q % size : Nat) : Int) = y % size := by rw [Int.natCast_emod, ← hyq, Int.emod_emod_of_dvd _ hdv]
      omega
    rw [hsq] at h1
    have hkq : k.seq = q := by omega
    have : R.get q = some k := by
      rw [RB.get, hD, hRs, if_pos (by omega), h1]
      simp [hkq]
    rw [outOf, this]
    exact congrArg Int.ofNat h2
end Go.Proofs.YtlkmmkphpiamcaaDoor
