/-
  THE PLAIN LAW of the receive log: what its bits and its last number say of the numbers that came. Condition: they reach less far than the size. By an AI agent.
-/
import Derived.Test.YtlkmmkphpiamcaaK
import Derived.Test.YtlkmmkphpiamcaaN
namespace Go.Proofs.Ytlkmmkphpiamcaa

theorem pow_dvd {size : Nat} (h : IsPow size) : size ∣ 65536 ∧ 0 < size := by
  obtain ⟨i, hi, rfl⟩ := h
  have : i = 0 ∨ i = 1 ∨ i = 2 ∨ i = 3 ∨ i = 4 ∨ i = 5 ∨ i = 6 ∨ i = 7 ∨ i = 8 ∨ i = 9 ∨ i = 10 ∨ i = 11 ∨ i = 12 ∨ i = 13 ∨ i = 14 ∨ i = 15 := by omega
  rcases this with rfl | rfl | rfl | rfl | rfl | rfl | rfl | rfl | rfl | rfl | rfl | rfl | rfl | rfl | rfl | rfl <;> exact ⟨by decide, by decide⟩

theorem mod_size {size : Nat} (h : size ∣ 65536) (x : Nat) : x % 65536 % size = x % size := Nat.mod_mod_of_dvd x h

/-- Two numbers that lie nearer to each other than the size have different places. -/
theorem place_ne {size a b : Nat} (h1 : a < b) (h2 : b < a + size) : a % size ≠ b % size := by
  intro e
  have hs : 0 < size := by omega
  have h3 : (b - a) % size = 0 := by
    have := Nat.sub_mod_eq_zero_of_mod_eq e.symm
    exact this
  rw [Nat.mod_eq_of_lt (by omega)] at h3
  omega

theorem wipes_bits (L : Log) (t q : Nat) : ∀ d, (wipes L t d).bits q = true ↔ L.bits q = true ∧ ∀ e, e < d → q ≠ (t + 1 + e) % 65536 % L.size
  | 0 => by simp [wipes]
  | d + 1 => by
    have ih := wipes_bits L t q d
    have hs := (wipes_same L t d).1
    simp only [wipes, Log.wipe, Bool.and_eq_true, Bool.not_eq_true', decide_eq_false_iff_not, ih, hs]
    constructor
    · rintro ⟨⟨h1, h2⟩, h3⟩
      refine ⟨h1, fun e he => ?_⟩
      rcases Nat.lt_or_ge e d with h | h
      · exact h2 e h
      · obtain rfl : e = d := by omega
        exact h3
    · rintro ⟨h1, h2⟩
      exact ⟨⟨h1, fun e he => h2 e (by omega)⟩, h2 d (by omega)⟩

/-- What a log says of the numbers that came: 'f' the first one, 't' the greatest one. -/
structure LInv (size f t : Nat) (outs : List Int) (L : Log) : Prop where
  started : L.started = true
  size_ : L.size = size
  top : L.top = t % 65536
  bits : ∀ n : Nat, f ≤ n → n ≤ t → (L.bits (n % size) = true ↔ (n : Int) ∈ outs)
  last : ∃ c : Nat, f ≤ c ∧ c ≤ t ∧ L.last = c % 65536 ∧ (∀ n : Nat, f ≤ n → n ≤ c → (n : Int) ∈ outs) ∧ (c = t ∨ ((c + 1 : Nat) : Int) ∉ outs)
  mem : (t : Int) ∈ outs
  range : ∀ x ∈ outs, (f : Int) ≤ x ∧ x ≤ (t : Int)

/-- What fixLastConsecutive finds, said of the numbers. -/
theorem fix_law {size f t c n : Nat} {outs : List Int} {L : Log} (hp : IsPow size) (hz : L.size = size) (hsz : t < f + size) (h32 : size ≤ 32768) (hfc : f ≤ c) (hct : c ≤ t) (hlast : L.last = c % 65536) (htop : L.top = t % 65536)
    (hbits : ∀ m : Nat, c < m → m ≤ t → (L.bits (m % size) = true ↔ (m : Int) ∈ outs)) (hall : ∀ m : Nat, f ≤ m → m ≤ c → (m : Int) ∈ outs) (hfix : FixRel L n) :
    ∃ c' : Nat, f ≤ c' ∧ c' ≤ t ∧ n = c' % 65536 ∧ (∀ m : Nat, f ≤ m → m ≤ c' → (m : Int) ∈ outs) ∧ (c' = t ∨ ((c' + 1 : Nat) : Int) ∉ outs) := by
  obtain ⟨hdv, hs0⟩ := pow_dvd hp
  obtain ⟨d, hn, hrun, hend⟩ := hfix
  have hd : d ≤ t - c := by
    rcases Nat.lt_or_ge (t - c) d with h | h
    · have := (hrun (t - c) h).1
      rw [hlast, htop] at this
      omega
    · exact h
  have hbit : ∀ m : Nat, c < m → m ≤ t → (L.has (m % 65536) = true ↔ (m : Int) ∈ outs) := by
    intro m h1 h2
    rw [Log.has, hz, mod_size hdv]
    exact hbits m h1 h2
  have hmid : ∀ e, (L.last + 1 + e) % 65536 = (c + 1 + e) % 65536 := by intro e; rw [hlast]; omega
  refine ⟨c + d, by omega, by omega, by rw [hn, hlast]; omega, fun m h1 h2 => ?_, ?_⟩
  · rcases Nat.lt_or_ge c m with h | h
    · have := (hrun (m - c - 1) (by omega)).2
      rw [hmid, show c + 1 + (m - c - 1) = m by omega] at this
      exact (hbit m h (by omega)).1 this
    · exact hall m h1 h
  · rcases Nat.lt_or_ge (c + d) t with h | h
    · right
      rcases hend with he | he
      · rw [hmid, htop] at he
        omega
      · rw [hmid] at he
        intro hm
        have := (hbit (c + 1 + d) (by omega) (by omega)).2 (by rw [show c + 1 + d = c + d + 1 by omega]; exact hm)
        rw [he] at this
        cases this
    · left; omega

theorem mark_bits (L : Log) (s q : Nat) : (L.mark s).bits q = true ↔ L.bits q = true ∨ q = s % L.size := by
  simp [Log.mark]

theorem linv_step {size f t s : Nat} {outs : List Int} {L L' : Log} {y : Int} (hp : IsPow size) (h32 : size ≤ 32768) (hI : LInv size f t outs L) (hadd : AddRel L s L') (hs : s ≤ 65535)
    (hy : y = (t : Int) + nearD t s) (hnd : nearD t s ≠ -32768) (hfy : (f : Int) ≤ y) (hsz : (max (t : Int) y) < (f : Int) + size) :
    LInv size f (max t y.toNat) (outs ++ [y]) L' := by
  obtain ⟨hdv, hs0⟩ := pow_dvd hp
  obtain ⟨hst, hsize, htop, hbits, ⟨c, hfc, hct, hlast, hall, hmax⟩, hmem, hrange⟩ := hI
  have hnr := nearD_range t s
  obtain ⟨Y, rfl⟩ : ∃ Y : Nat, y = Y := ⟨y.toNat, by omega⟩
  have hYs : Y % 65536 = s := by unfold nearD at hy; omega
  have hpl : s % size = Y % size := by rw [← hYs, mod_size hdv]
  have hD : (s + (65536 - L.top)) % 65536 = (if (Y : Int) ≥ t then Y - t else 65536 - (t - Y)) := by
    rw [htop]
    split <;> omega
  have hft : f ≤ t := by have := hrange _ hmem; omega
  simp only [Int.toNat_natCast]
  rw [AddRel, if_neg (by simp [hst]), hD] at hadd
  by_cases h0 : Y = t
  · subst h0
    rw [if_pos (by simp)] at hadd
    subst hadd
    rw [Nat.max_self]
    refine ⟨hst, hsize, htop, fun n h1 h2 => ?_, ⟨c, hfc, hct, hlast, fun n h1 h2 => List.mem_append_left _ (hall n h1 h2), ?_⟩, List.mem_append_left _ hmem, fun x hx => ?_⟩
    · rw [hbits n h1 h2]
      simp only [List.mem_append, List.mem_singleton]
      constructor
      · exact fun h => .inl h
      · rintro (h | h)
        · exact h
        · rw [h]; exact hmem
    · rcases hmax with h | h
      · exact .inl h
      · rcases Nat.eq_or_lt_of_le hct with he | he
        · exact .inl he
        · right
          simp only [List.mem_append, List.mem_singleton, not_or]
          refine ⟨h, fun e => h (by rw [e]; exact hmem)⟩
    · simp only [List.mem_append, List.mem_singleton] at hx
      rcases hx with hx | hx
      · exact hrange x hx
      · rw [hx]; omega
  · by_cases hup : t < Y
    · -- the number is greater than all
      have hDv : (if (Y : Int) ≥ t then Y - t else 65536 - (t - Y)) = Y - t := if_pos (by omega)
      rw [hDv] at hadd
      rw [if_neg (by omega), if_pos (by omega)] at hadd
      have hmx : max t Y = Y := by omega
      rw [hmx]
      obtain ⟨Lw, hLw⟩ : ∃ Lw, wipes L L.top (Y - t - 1) = Lw := ⟨_, rfl⟩
      obtain ⟨w1, w2, w3, w4⟩ := wipes_same L L.top (Y - t - 1)
      have hwb := wipes_bits L L.top
      rw [hLw] at hadd w1 w2 w3 w4
      have hYm : ((max (t : Int) (Y : Int)) : Int) = Y := by omega
      rw [hYm] at hsz
      -- the bits behind all
      have key : ∀ M : Log, M.bits = Lw.bits → M.size = size → ∀ n : Nat, f ≤ n → n ≤ Y → ((M.mark s).bits (n % size) = true ↔ (n : Int) ∈ outs ++ [(Y : Int)]) := by
        intro M hM hMs n h1 h2
        rw [mark_bits, hM, hMs, hpl, ← hLw, hwb (n % size) (Y - t - 1), hsize]
        simp only [List.mem_append, List.mem_singleton]
        have hne : ∀ e, e < Y - t - 1 → (L.top + 1 + e) % 65536 % size = (t + 1 + e) % size := by
          intro e he
          rw [mod_size hdv, htop, show t % 65536 + 1 + e = t % 65536 + (1 + e) by omega, show t + 1 + e = t + (1 + e) by omega, Nat.add_mod, mod_size hdv, ← Nat.add_mod]
        rcases Nat.lt_or_ge t n with hn | hn
        · rcases Nat.lt_or_ge n Y with hn2 | hn2
          · constructor
            · rintro (⟨_, h⟩ | h)
              · exact absurd (by rw [hne _ (by omega), show t + 1 + (n - t - 1) = n by omega]) (h (n - t - 1) (by omega))
              · exact absurd h (place_ne hn2 (by omega))
            · rintro (h | h)
              · have := hrange _ h; omega
              · omega
          · obtain rfl : n = Y := by omega
            simp
        · constructor
          · rintro (⟨h, _⟩ | h)
            · exact .inl ((hbits n h1 hn).1 h)
            · exact absurd h (place_ne (by omega) (by omega))
          · rintro (h | h)
            · refine .inl ⟨(hbits n h1 hn).2 h, fun e he => ?_⟩
              rw [hne e he]
              exact place_ne (by omega) (by omega)
            · omega
      have hrange' : ∀ x ∈ outs ++ [(Y : Int)], (f : Int) ≤ x ∧ x ≤ (Y : Int) := by
        intro x hx
        simp only [List.mem_append, List.mem_singleton] at hx
        rcases hx with hx | hx
        · have := hrange x hx; omega
        · omega
      have hmem' : (Y : Int) ∈ outs ++ [(Y : Int)] := by simp
      have hlastY : (L.last + 1) % 65536 = s ↔ c + 1 = Y := by
        rw [hlast]
        omega
      by_cases hcY : c + 1 = Y
      · rw [if_pos (hlastY.2 hcY)] at hadd
        subst hadd
        refine ⟨by simpa [Log.mark] using w3.trans hst, by simpa [Log.mark] using w1.trans hsize, by simpa [Log.mark] using hYs.symm, key { Lw with top := s, last := s } rfl (w1.trans hsize), ⟨Y, by omega, Nat.le_refl _, by simpa [Log.mark] using hYs.symm, fun n h1 h2 => ?_, .inl rfl⟩, hmem', hrange'⟩
        rcases Nat.lt_or_ge n Y with h | h
        · exact List.mem_append_left _ (hall n h1 (by omega))
        · obtain rfl : n = Y := by omega
          exact hmem'
      · rw [if_neg (fun h => hcY (hlastY.1 h)), if_neg (by rw [hsize, hlast]; omega)] at hadd
        subst hadd
        refine ⟨by simpa [Log.mark] using w3.trans hst, by simpa [Log.mark] using w1.trans hsize, by simpa [Log.mark] using hYs.symm, key { Lw with top := s } rfl (w1.trans hsize), ⟨c, hfc, by omega, by simpa [Log.mark] using w4.trans hlast, fun n h1 h2 => List.mem_append_left _ (hall n h1 h2), .inr ?_⟩, hmem', hrange'⟩
        simp only [List.mem_append, List.mem_singleton, not_or]
        refine ⟨?_, by omega⟩
        rcases hmax with h | h
        · intro hm
          have := hrange _ hm
          omega
        · exact h
    · -- the number is not greater
      have hDv : (if (Y : Int) ≥ t then Y - t else 65536 - (t - Y)) = 65536 - (t - Y) := if_neg (by omega)
      rw [hDv] at hadd
      rw [if_neg (by omega), if_neg (by omega)] at hadd
      have hmx : max t Y = t := by omega
      rw [hmx]
      have hYm : ((max (t : Int) (Y : Int)) : Int) = t := by omega
      rw [hYm] at hsz
      have key : ∀ M : Log, M.bits = L.bits → M.size = size → ∀ n : Nat, f ≤ n → n ≤ t → ((M.mark s).bits (n % size) = true ↔ (n : Int) ∈ outs ++ [(Y : Int)]) := by
        intro M hM hMs n h1 h2
        rw [mark_bits, hM, hMs, hpl, hbits n h1 h2]
        simp only [List.mem_append, List.mem_singleton]
        constructor
        · rintro (h | h)
          · exact .inl h
          · right
            rcases Nat.lt_trichotomy n Y with h3 | h3 | h3
            · exact absurd h (place_ne h3 (by omega))
            · omega
            · exact absurd h.symm (place_ne h3 (by omega))
        · rintro (h | h)
          · exact .inl h
          · right
            rw [show n = Y by omega]
      have hrange' : ∀ x ∈ outs ++ [(Y : Int)], (f : Int) ≤ x ∧ x ≤ (t : Int) := by
        intro x hx
        simp only [List.mem_append, List.mem_singleton] at hx
        rcases hx with hx | hx
        · exact hrange x hx
        · omega
      have hlastY : (L.last + 1) % 65536 = s ↔ c + 1 = Y := by
        rw [hlast]
        omega
      by_cases hcY : c + 1 = Y
      · rw [if_pos (hlastY.2 hcY)] at hadd
        obtain ⟨n', hfix, rfl⟩ := hadd
        have hfl := fix_law (size := size) (f := f) (t := t) (c := Y) (outs := outs ++ [(Y : Int)]) (L := { L with last := s }) hp hsize (by omega) h32 (by omega) (by omega) hYs.symm htop
          (fun m h1 h2 => by
            show L.bits (m % size) = true ↔ _
            rw [hbits m (by omega) h2]
            simp only [List.mem_append, List.mem_singleton]
            exact ⟨fun h => .inl h, fun h => h.resolve_right (by omega)⟩)
          (fun m h1 h2 => by
            rcases Nat.lt_or_ge m Y with h | h
            · exact List.mem_append_left _ (hall m h1 (by omega))
            · obtain rfl : m = Y := by omega
              simp) hfix
        obtain ⟨c', g1, g2, g3, g4, g5⟩ := hfl
        exact ⟨hst, hsize, htop, key { L with last := n' } rfl hsize, ⟨c', g1, g2, g3, g4, g5⟩, List.mem_append_left _ hmem, hrange'⟩
      · rw [if_neg (fun h => hcY (hlastY.1 h))] at hadd
        subst hadd
        refine ⟨hst, hsize, htop, key L rfl hsize, ⟨c, hfc, hct, hlast, fun n h1 h2 => List.mem_append_left _ (hall n h1 h2), ?_⟩, List.mem_append_left _ hmem, hrange'⟩
        rcases hmax with h | h
        · exact .inl h
        · right
          simp only [List.mem_append, List.mem_singleton, not_or]
          exact ⟨h, by omega⟩
end Go.Proofs.Ytlkmmkphpiamcaa
