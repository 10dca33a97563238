/-
  spec.Apart and spec.At. Conditions: as the line's. By an AI agent.
-/
import Derived.Test.YtlkmmkphpiamcaaDoorE
namespace Go.Proofs.YtlkmmkphpiamcaaDoor
open Go.RowKit

def Distinct (xs : List Int) : Prop := ∀ (k : Nat) x, xs[k]? = some x → x ∉ xs.take k

def ApartPost (xs : List Int) (w : World) (e : Ending) (w' : World) : Prop := w' = w ∧ ∃ b : Bool, e = .returned (.bool b) ∧ (b = true → Distinct xs)

set_option maxHeartbeats 800000 in
theorem apart_any (n c : Nat) (A : Option Addr) (xs : List Int) (w : World) (hr : Reads w w.heap.size 1 A n (xs.map (Value.int .i64))) (hn : n ≤ 9223372036854775807) (hnc : n ≤ c) :
    Calls Tryd.prog 7 #[.slice A n c] w (ApartPost xs w) := by
  have hlen : xs.length = n := by simpa using hr.1
  have HR := Lib.hid hr
  have HLEN := Lib.hid hlen
  clear hr hlen
  go_enter Tryd.func7, Tryd.ntmps7
  go_wp2_with fail
  go_loop [7] (fun i => ∃ k : Nat, i = .int .i64 k ∧ k ≤ n ∧ Hid (∀ (j : Nat) x, j < k → xs[j]? = some x → x ∉ xs.take j)) (fun i => n - (intOf i).toNat)
  case atStart => exact ⟨0, rfl, by omega, fun j x hj => by omega⟩
  case round =>
    obtain ⟨k, rfl, hk, hno⟩ := hrel
    by_cases hlt : k < n
    · obtain ⟨ad, x, rfl, hab, hx, hc⟩ := i64_at HR.out hlt
      have hrt := HR.out.take (k := k) (by omega)
      rw [Nat.mul_one, List.map_take.symm] at hrt
      have HRT := Lib.hid hrt
      have HX := Lib.hid hx
      have hkc : k ≤ c := by omega
      clear hx hrt
      go_wp2_with fail
      refine (within_any k c w.heap.size (some ad) (xs.take k) x _ HRT.out (by omega)).mono ?_
      rintro e w' ⟨rfl, rfl⟩
      by_cases hm : x ∈ xs.take k
      · have hd : decide (x ∈ xs.take k) = true := by simp [hm]
        rw [hd]
        clear hm hd
        go_wp2_with fail
        go_ret
        exact ⟨rfl, false, rfl, by simp⟩
      · have hd : decide (x ∈ xs.take k) = false := by simp [hm]
        rw [hd]
        have HM := Lib.hid hm
        clear hm hd
        go_wp2_with fail
        refine ⟨⟨k + 1, by go_num, by omega, fun j y hj hy => ?_⟩, by simp [intOf]; omega⟩
        rcases Nat.lt_or_ge j k with h | h
        · exact hno.out j y h hy
        · obtain rfl : j = k := by omega
          rw [HX.out] at hy
          injection hy with hy
          subst hy
          exact HM.out
    · obtain rfl : k = n := by omega
      go_wp2_with fail
      go_ret
      refine ⟨rfl, true, rfl, fun _ j y hy => ?_⟩
      refine hno.out j y ?_ hy
      rw [← HLEN.out]
      exact (List.getElem?_eq_some_iff.1 hy).1

def AtPost (xs : List Int) (size q : Int) (w : World) (e : Ending) (w' : World) : Prop :=
  (∃ m, w' = w.drewN m) ∧ ∃ (at_ : Int) (told : Bool), e = .returned (.tuple #[.int .i64 at_, .bool told]) ∧
    (told = true → ∃ f h, EndsFact xs f h size ∧ nearD h q ≠ -32768 ∧ ((at_ = -1 ∧ h + nearD h q ∉ xs) ∨ (∃ i : Nat, at_ = i ∧ xs[i]? = some (h + nearD h q))))

set_option maxHeartbeats 1600000 in
theorem at_any (n c B : Nat) (A : Option Addr) (xs : List Int) (size q : Int) (w : World) (hr : Reads w B 1 A n (xs.map (Value.int .i64))) (hn : n ≤ 9223372036854775807)
    (hx : ∀ x ∈ xs, 0 ≤ x ∧ x ≤ 140737488355328) (hq : 0 ≤ q ∧ q ≤ 65535) :
    Calls Tryd.prog 10 #[.slice A n c, .int .i64 size, .int .u16 q] w (AtPost xs size q w) := by
  have hlen : xs.length = n := by simpa using hr.1
  have HR := Lib.hid hr
  have HX := Lib.hid hx
  have HLEN := Lib.hid hlen
  clear hr hx hlen
  go_enter Tryd.func10, Tryd.ntmps10
  go_wp2_with fail
  refine (ends_any n c B A xs size w HR.out hn HX.out).mono ?_
  rintro e w1 ⟨⟨m, rfl⟩, f, h, b, rfl, f0, h0, h1, hb⟩
  cases b with
  | false =>
    clear hb
    go_wp2_with (go_at_call 12; refine (near_any h q _ (by omega) h1).mono ?_; rintro e w' ⟨rfl, rfl⟩)
    go_ret2
    exact ⟨⟨m, rfl⟩, 0, false, rfl, by simp⟩
  | true =>
    have HE := Lib.hid (hb rfl)
    clear hb
    have hnr := nearD_range h q
    by_cases hnd : nearD h q = -32768
    · have hne : (nearD h q != -32768) = false := by simp [hnd]
      clear hnd hnr
      go_wp2_with (go_at_call 12; refine (near_any h q _ (by omega) h1).mono ?_; rintro e w' ⟨rfl, rfl⟩)
      go_ret2
      exact ⟨⟨m, rfl⟩, 0, false, rfl, by simp⟩
    · have hne : (nearD h q != -32768) = true := by simp [hnd]
      have HND := Lib.hid hnd
      clear hnd
      by_cases hlo : h + nearD h q < 0
      · go_wp2_with (go_at_call 12; refine (near_any h q _ (by omega) h1).mono ?_; rintro e w' ⟨rfl, rfl⟩)
        go_ret2
        exact ⟨⟨m, rfl⟩, 0, false, rfl, by simp⟩
      · obtain ⟨N, hN⟩ : ∃ N, h + nearD h q = N := ⟨_, rfl⟩
        have hN0 : ¬ N < 0 := by omega
        have HN := Lib.hid hN
        go_wp2_with (go_at_call 12; refine (near_any h q _ (by omega) h1).mono ?_; rw [hN]; rintro e w' ⟨rfl, rfl⟩)
        clear hN hlo hnr
        go_loop [40] (fun i => ∃ k : Nat, i = .int .i64 k ∧ k ≤ n ∧ Hid (N ∉ xs.take k)) (fun i => n - (intOf i).toNat)
        case atStart => exact ⟨0, rfl, by omega, by simp [Hid]⟩
        case round =>
          obtain ⟨k, rfl, hk, hno⟩ := hrel
          by_cases hlt : k < n
          · obtain ⟨ad, x, rfl, hab, hx, hc⟩ := i64_at HR.out hlt
            have hc : (w.drewN m).cell? (ad.add k) = some (.int .i64 x) := hc
            by_cases he : x = N
            · have hE : (x == N) = true := by simp [he]
              have HXX := Lib.hid (he ▸ hx)
              clear hx he
              go_wp2_with fail
              go_ret2
              refine ⟨⟨m, rfl⟩, k, true, rfl, fun _ => ⟨f, h, HE.out, HND.out, .inr ⟨k, rfl, ?_⟩⟩⟩
              rw [HN.out]
              exact HXX.out
            · have hE : (x == N) = false := by simp [he]
              have HXX := Lib.hid hx
              have HEE := Lib.hid he
              clear hx he
              go_wp2_with fail
              refine ⟨⟨k + 1, by go_num, by omega, ?_⟩, by simp [intOf]; omega⟩
              rw [List.take_add_one, HXX.out]
              simp only [Option.toList_some, List.mem_append, List.mem_singleton, not_or]
              exact ⟨hno.out, fun e => HEE.out e.symm⟩
          · obtain rfl : k = n := by omega
            go_wp2_with fail
            go_ret2
            refine ⟨⟨m, rfl⟩, -1, true, rfl, fun _ => ⟨f, h, HE.out, HND.out, .inl ⟨rfl, ?_⟩⟩⟩
            rw [HN.out]
            have h := hno.out
            rwa [List.take_of_length_le (by rw [HLEN.out]; omega)] at h
end Go.Proofs.YtlkmmkphpiamcaaDoor
