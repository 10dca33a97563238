/-
  spec.Power, within, ends, spec.Has. Conditions: numbers from 0 to 2 to the 47th. By an AI agent.
-/
import Derived.Test.YtlkmmkphpiamcaaM
namespace Go.Proofs.Ytlkmmkphpiamcaa
open Go.RowKit

theorem i64_at {w : World} {B n k : Nat} {A : Option Addr} {xs : List Int} (h : Reads w B 1 A n (xs.map (Value.int .i64))) (hk : k < n) :
    ∃ ad x, A = some ad ∧ ad.block < B ∧ xs[k]? = some x ∧ w.cell? (ad.add k) = some (.int .i64 x) := by
  obtain ⟨ad, u, e, hb, hu, hc⟩ := h.at1 hk
  have hl : xs.length = n := by simpa using h.1
  rw [List.getElem?_map, List.getElem?_eq_getElem (by omega)] at hu
  simp at hu
  exact ⟨ad, xs[k], e, hb, List.getElem?_eq_getElem (by omega), by rw [hc, ← hu]⟩

set_option maxHeartbeats 800000 in
theorem within_any (n c B : Nat) (A : Option Addr) (xs : List Int) (y : Int) (w : World) (hr : Reads w B 1 A n (xs.map (Value.int .i64))) (hn : n ≤ 9223372036854775807) :
    Calls Try.prog 39 #[.slice A n c, .int .i64 y] w fun e w' => e = .returned (.bool (decide (y ∈ xs))) ∧ w = w' := by
  have hlen : xs.length = n := by simpa using hr.1
  obtain ⟨b, hb⟩ : ∃ b, decide (y ∈ xs) = b := ⟨_, rfl⟩
  have HR := Lib.hid hr
  have HLEN := Lib.hid hlen
  have HB := Lib.hid hb
  rw [hb]
  clear hr hlen hb
  go_enter Try.func39, Try.ntmps39
  go_wp2_with fail
  go_loop [9] (fun i => ∃ k : Nat, i = .int .i64 k ∧ k ≤ n ∧ Hid (y ∉ xs.take k)) (fun i => n - (intOf i).toNat)
  case atStart => exact ⟨0, rfl, by omega, by simp [Hid]⟩
  case round =>
    obtain ⟨k, rfl, hk, hno⟩ := hrel
    by_cases hlt : k < n
    · obtain ⟨ad, x, rfl, hab, hx, hc⟩ := i64_at HR.out hlt
      by_cases he : x = y
      · have hE : (x == y) = true := by simp [he]
        have hmem : y ∈ xs := by rw [← he]; exact List.mem_of_getElem? hx
        have HM := Lib.hid hmem
        clear hx he hmem
        go_wp2_with fail
        go_ret
        have := HB.out
        rw [decide_eq_true HM.out] at this
        exact ⟨by rw [← this]; rfl, rfl⟩
      · have hE : (x == y) = false := by simp [he]
        have HX := Lib.hid hx
        have HE := Lib.hid he
        clear hx he
        go_wp2_with fail
        refine ⟨⟨k + 1, by go_num, by omega, ?_⟩, by simp [intOf]; omega⟩
        rw [List.take_add_one, HX.out]
        simp only [Option.toList_some, List.mem_append, List.mem_singleton, not_or]
        exact ⟨hno.out, fun e => HE.out e.symm⟩
    · obtain rfl : k = n := by omega
      go_wp2_with fail
      go_ret
      have h := hno.out
      rw [List.take_of_length_le (by rw [HLEN.out]; omega)] at h
      have := HB.out
      rw [decide_eq_false h] at this
      exact ⟨by rw [← this]; rfl, rfl⟩

def PowerPost (size : Int) (w : World) (e : Ending) (w' : World) : Prop := w = w' ∧ ∃ b : Bool, e = .returned (.bool b) ∧ (b = true ↔ ∃ j, j ≤ 9 ∧ size = 64 * 2 ^ j)

set_option maxHeartbeats 800000 in
theorem power_any (size : Int) (w : World) : Calls Try.prog 14 #[.int .i64 size] w (PowerPost size w) := by
  go_enter Try.func14, Try.ntmps14
  go_wp2_with fail
  go_loop [3] (fun v => ∃ (j : Nat) (p : Int), v = .int .i64 p ∧ 64 ≤ p ∧ p ≤ 65536 ∧ Hid (p = 64 * 2 ^ j ∧ ∀ i, i < j → size ≠ 64 * 2 ^ i)) (fun v => (65536 - intOf v).toNat)
  case atStart => exact ⟨0, 64, rfl, by omega, by omega, by simp, fun i hi => by omega⟩
  case round =>
    obtain ⟨j, p, rfl, h0, h1, hp⟩ := hrel
    by_cases hle : p ≤ 32768
    · by_cases he : size = p
      · have hE : (size == p) = true := by simp [he]
        have HE := Lib.hid he
        clear he
        go_wp2_with fail
        go_ret
        refine ⟨rfl, true, rfl, fun _ => ⟨j, ?_, by rw [HE.out]; exact hp.out.1⟩, fun _ => rfl⟩
        rcases Nat.lt_or_ge 9 j with h | h
        · have := Nat.pow_le_pow_right (n := 2) (by omega) (show 10 ≤ j from h)
          have h2 := hp.out.1
          have e : ((2 : Int) ^ j) = ((2 ^ j : Nat) : Int) := by simp
          rw [e] at h2
          generalize 2 ^ j = q at *
          omega
        · exact h
      · have hE : (size == p) = false := by simp [he]
        have HE := Lib.hid he
        clear he
        go_wp2_with fail
        refine ⟨⟨j + 1, p * 2, rfl, by omega, by omega, ?_, fun i hi => ?_⟩, by simp [intOf]; omega⟩
        · rw [hp.out.1, Int.pow_succ]; omega
        · rcases Nat.lt_or_ge i j with h | h
          · exact hp.out.2 i h
          · obtain rfl : i = j := by omega
            rw [← hp.out.1]
            exact HE.out
    · go_wp2_with fail
      go_ret
      refine ⟨rfl, false, rfl, by simp, fun ⟨i, hi, he⟩ => ?_⟩
      obtain ⟨h2, h3⟩ := hp.out
      have : i < j := by
        rcases Nat.lt_or_ge i j with h | h
        · exact h
        · have h5 := Nat.pow_le_pow_right (n := 2) (by omega) h
          have h9 := Nat.pow_le_pow_right (n := 2) (by omega) hi
          have e : ((2 : Int) ^ j) = ((2 ^ j : Nat) : Int) := by simp
          rw [e] at h2
          generalize 2 ^ j = q at *
          generalize 2 ^ i = r at *
          omega
      exact absurd he (h3 i this)

/-- The first and the greatest one of some numbers, of which none is below the first; they reach less far than a size. -/
def EndsFact (xs : List Int) (f h size : Int) : Prop := f = xs.getD 0 0 ∧ h ∈ xs ∧ (∀ x ∈ xs, f ≤ x ∧ x ≤ h) ∧ h - f < size

def EndsPost (xs : List Int) (size : Int) (w : World) (e : Ending) (w' : World) : Prop :=
  (∃ m, w' = w.drewN m) ∧ ∃ f h b, e = .returned (.tuple #[.int .i64 f, .int .i64 h, .bool b]) ∧ 0 ≤ f ∧ 0 ≤ h ∧ h ≤ 140737488355328 ∧ (b = true → EndsFact xs f h size)

def ESt (xs : List Int) (f h : Int) (k : Nat) : Prop := h ∈ xs ∧ ∀ x ∈ xs.take k, f ≤ x ∧ x ≤ h

theorem est_step {xs : List Int} {f h x : Int} {k : Nat} (hx : xs[k]? = some x) (hs : ESt xs f h k) (hf : f ≤ x) : ESt xs f (max h x) (k + 1) := by
  obtain ⟨h1, h2⟩ := hs
  refine ⟨?_, fun y hy => ?_⟩
  · rcases Int.le_total h x with h3 | h3
    · rw [Int.max_eq_right h3]; exact List.mem_of_getElem? hx
    · rw [Int.max_eq_left h3]; exact h1
  · rw [List.take_add_one, hx] at hy
    simp only [Option.toList_some, List.mem_append, List.mem_singleton] at hy
    rcases hy with hy | rfl
    · have := h2 y hy
      omega
    · omega

set_option maxHeartbeats 800000 in
theorem ends_any (n c B : Nat) (A : Option Addr) (xs : List Int) (size : Int) (w : World) (hr : Reads w B 1 A n (xs.map (Value.int .i64))) (hn : n ≤ 9223372036854775807)
    (hx : ∀ x ∈ xs, 0 ≤ x ∧ x ≤ 140737488355328) :
    Calls Try.prog 38 #[.slice A n c, .int .i64 size] w (EndsPost xs size w) := by
  have hlen : xs.length = n := by simpa using hr.1
  rcases Nat.eq_zero_or_pos n with h0 | h0
  · have h0' : ((n : Int) == 0) = true := by simp; omega
    clear h0 hr hlen
    go_enter Try.func38, Try.ntmps38
    go_wp2_with fail
    go_ret3
    exact ⟨⟨0, rfl⟩, 0, 0, false, rfl, by omega, by omega, by omega, by simp⟩
  · have h0' : ((n : Int) == 0) = false := by simp; omega
    obtain ⟨ad, f, rfl, hab, hf, hc0⟩ := i64_at hr h0
    have hfm := hx f (List.mem_of_getElem? hf)
    have hc0' : w.cell? ad = some (.int .i64 f) := by simpa [Addr.add] using hc0
    have hi : (0 : Int) < (n : Int) := by omega
    have HR := Lib.hid hr
    have HX := Lib.hid hx
    have HLEN := Lib.hid hlen
    have HF := Lib.hid hf
    obtain ⟨f0, f1⟩ := hfm
    clear hr hx hlen hf
    go_enter Try.func38, Try.ntmps38
    go_wp2_with fail
    go_quiet (fail)
    go_wp2_with fail
    go_loop [4, 5, 20] (fun v4 v i => ∃ (k : Nat) (h : Int), v4 = .int .i64 f ∧ i = .int .i64 k ∧ v = .int .i64 h ∧ k ≤ n ∧ f ≤ h ∧ h ≤ 140737488355328 ∧ Hid (ESt xs f h k)) (fun _ _ i => n - (intOf i).toNat)
    case atStart => exact ⟨0, f, rfl, rfl, rfl, by omega, by omega, f1, List.mem_of_getElem? HF.out, by simp⟩
    case round =>
      obtain ⟨k, h, rfl, rfl, rfl, hk, hfh, hh, hst⟩ := hrel
      by_cases hlt : k < n
      · obtain ⟨ad2, x, he, _, hx, hc⟩ := i64_at HR.out hlt
        obtain rfl : ad = ad2 := by injection he
        obtain ⟨x0, x1⟩ := HX.out x (List.mem_of_getElem? hx)
        have HXX := Lib.hid hx
        clear hx he
        by_cases hxf : x < f
        · go_wp2_with fail
          go_ret3
          exact ⟨⟨nq, rfl⟩, 0, 0, false, rfl, by omega, by omega, by omega, by simp⟩
        · by_cases hup : h < x
          · have hm : max h x = x := Int.max_eq_right (by omega)
            have HST := Lib.hid (est_step HXX.out hst.out (by omega))
            rw [hm] at HST
            go_wp2_with fail
            exact ⟨⟨k + 1, x, rfl, by go_num, rfl, by omega, by omega, by omega, HST.out⟩, by simp [intOf]; omega⟩
          · have hm : max h x = h := Int.max_eq_left (by omega)
            have HST := Lib.hid (est_step HXX.out hst.out (by omega))
            rw [hm] at HST
            go_wp2_with fail
            exact ⟨⟨k + 1, h, rfl, by go_num, rfl, by omega, by omega, by omega, HST.out⟩, by simp [intOf]; omega⟩
      · obtain rfl : k = n := by omega
        go_wp2_with fail
        go_ret3
        refine ⟨⟨nq, rfl⟩, f, h, _, rfl, f0, by omega, hh, fun hb => ?_⟩
        obtain ⟨h1, h2⟩ := hst.out
        rw [List.take_of_length_le (by rw [HLEN.out]; omega)] at h2
        refine ⟨by rw [List.getD, HF.out]; rfl, h1, h2, by simpa using hb⟩

def SHasPost (xs : List Int) (size q : Int) (w : World) (e : Ending) (w' : World) : Prop :=
  (∃ m, w' = w.drewN m) ∧ ∃ has told, e = .returned (.tuple #[.bool has, .bool told]) ∧
    (told = true → ∃ f h, EndsFact xs f h size ∧ nearD h q ≠ -32768 ∧ f ≤ h + nearD h q ∧ h + nearD h q ≤ h ∧ has = decide (h + nearD h q ∈ xs))

set_option maxHeartbeats 800000 in
theorem shas_any (n c B : Nat) (A : Option Addr) (xs : List Int) (size q : Int) (w : World) (hr : Reads w B 1 A n (xs.map (Value.int .i64))) (hn : n ≤ 9223372036854775807)
    (hx : ∀ x ∈ xs, 0 ≤ x ∧ x ≤ 140737488355328) :
    Calls Try.prog 16 #[.slice A n c, .int .i64 size, .int .u16 q] w (SHasPost xs size q w) := by
  have HR := Lib.hid hr
  have HX := Lib.hid hx
  clear hr hx
  go_enter Try.func16, Try.ntmps16
  go_wp2_with fail
  refine (ends_any n c B A xs size w HR.out hn HX.out).mono ?_
  rintro e w1 ⟨⟨m, rfl⟩, f, h, b, rfl, f0, h0, h1, hb⟩
  cases b with
  | false =>
    clear hb
    go_wp2_with fail
    go_ret2
    exact ⟨⟨m, rfl⟩, false, false, rfl, by simp⟩
  | true =>
    have HE := Lib.hid (hb rfl)
    clear hb
    have hnr := nearD_range h q
    by_cases hnd : nearD h q = -32768
    · have hne : (nearD h q != -32768) = false := by simp [hnd]
      clear hnd hnr
      go_wp2_with (go_at_call 31; refine (near_any h q _ (by omega) h1).mono ?_; rintro e w' ⟨rfl, rfl⟩)
      go_ret2
      exact ⟨⟨m, rfl⟩, false, false, rfl, by simp⟩
    · have hne : (nearD h q != -32768) = true := by simp [hnd]
      have HND := Lib.hid hnd
      clear hnd
      by_cases hlo : h + nearD h q < f
      · go_wp2_with (go_at_call 31; refine (near_any h q _ (by omega) h1).mono ?_; rintro e w' ⟨rfl, rfl⟩)
        go_ret2
        exact ⟨⟨m, rfl⟩, false, false, rfl, by simp⟩
      · by_cases hhi : h < h + nearD h q
        · go_wp2_with (go_at_call 31; refine (near_any h q _ (by omega) h1).mono ?_; rintro e w' ⟨rfl, rfl⟩)
          go_ret2
          exact ⟨⟨m, rfl⟩, false, false, rfl, by simp⟩
        · go_wp2_with (first
            | (go_at_call 31; refine (near_any h q _ (by omega) h1).mono ?_; rintro e w' ⟨rfl, rfl⟩)
            | (go_at_call 39; refine (within_any n c B A xs (h + nearD h q) _ ?_ hn).mono ?_; (exact HR.out); rintro e w' ⟨rfl, rfl⟩))
          go_ret2
          exact ⟨⟨m, rfl⟩, _, true, rfl, fun _ => ⟨f, h, HE.out, HND.out, by omega, by omega, rfl⟩⟩
end Go.Proofs.Ytlkmmkphpiamcaa
