/-
  The map of arrival times: how it lies, and what only reads it: capacity, index, get, HasReceived, Clamp, the ends. Condition: the map lies in its two blocks. By an AI agent.
-/
import Derived.Test.YtlkmmkphpiamcaaB
import Derived.Test.YtlkmmkphpiamcaaAt
import Derived.Laws.Bits128
namespace Go.Proofs.Ytlkmmkphpiamcaa
open Go.RowKit

theorem i64_and255 (n : Int) : bits .and .i64 n 255 = n % 256 := by
  have h255 : (BitVec.ofInt 64 255).toNat = 2 ^ 8 - 1 := by decide
  have key : (BitVec.ofInt 64 n &&& BitVec.ofInt 64 255).toNat = (n % ((2 ^ 64 : Nat) : Int)).toNat % 2 ^ 8 := by
    rw [BitVec.toNat_and, BitVec.toNat_ofInt, h255, Nat.and_two_pow_sub_one_eq_mod]
  show IntKind.i64.wrap ((BitVec.ofInt 64 n &&& BitVec.ofInt 64 255).toNat : Nat) = n % 256
  rw [key, IntKind.wrap_i64]
  omega

def Cap (C : Nat) : Prop := C = 128 ∨ C = 256
theorem mask (s C : Nat) (h : Cap C) : bits .and .i64 (s : Int) (wrap64 ((C : Int) - 1)) = (s : Int) % (C : Int) := by
  rcases h with rfl | rfl
  · rw [show wrap64 (((128 : Nat) : Int) - 1) = 127 by unfold wrap64; omega, i64_and127]
    omega
  · rw [show wrap64 (((256 : Nat) : Int) - 1) = 255 by unfold wrap64; omega, i64_and255]
    omega

/-- The map of arrival times lies at the head of block r (of ten cells), its row in block g: capacity C, numbers from b up to e, arrivals f. -/
structure MapAt (w : World) (r g C b e : Nat) (f : Nat → Int) : Prop where
  cap : Cap C
  c0 : w.cell? ⟨r, 0, none⟩ = some (.slice (some ⟨g, 0, none⟩) C C)
  c1 : w.cell? ⟨r, 1, none⟩ = some (.int .i64 (b : Int))
  c2 : w.cell? ⟨r, 2, none⟩ = some (.int .i64 (e : Int))
  be : b ≤ e
  room : e ≤ b + C
  small : e < 4611686018427387904
  row : ∃ cs : Array Value, Blk w g 2 cs ∧ cs.size = C ∧ ∀ s, b ≤ s → s < e → cs[s % C]? = some (.int .i64 (f s))

theorem MapAt.keep {w w' : World} {r g C b e : Nat} {f : Nat → Int} (h : MapAt w r g C b e f) (h1 : ∀ k, k < 3 → w'.cell? ⟨r, k, none⟩ = w.cell? ⟨r, k, none⟩) (h2 : w'.heap[g]? = w.heap[g]?) : MapAt w' r g C b e f := by
  obtain ⟨cs, hb, r⟩ := h.row
  exact ⟨h.cap, (h1 0 (by omega)).trans h.c0, (h1 1 (by omega)).trans h.c1, (h1 2 (by omega)).trans h.c2, h.be, h.room, h.small, cs, h2.trans hb, r⟩
theorem MapAt.drewN {w : World} {r g C b e : Nat} {f : Nat → Int} (h : MapAt w r g C b e f) (n : Nat) : MapAt (w.drewN n) r g C b e f := ⟨h.cap, h.c0, h.c1, h.c2, h.be, h.room, h.small, h.row⟩

/-- What get answers. -/
def arr (b e : Nat) (f : Nat → Int) (s : Nat) : Int := if b ≤ s ∧ s < e then f s else -1

theorem cap_any (r g C : Nat) (w : World) (h0 : w.cell? ⟨r, 0, none⟩ = some (.slice (some ⟨g, 0, none⟩) C C)) :
    Calls Try.prog 109 #[.pointer (some ⟨r, 0, none⟩)] w fun e w' => e = .returned (.int .i64 (C : Int)) ∧ w' = w := by
  go_enter Try.func109, Try.ntmps109
  go_wp2_with fail
  go_ret
  exact ⟨rfl, rfl⟩
theorem capNil_any (r : Nat) (w : World) (h0 : w.cell? ⟨r, 0, none⟩ = some (.slice none 0 0)) :
    Calls Try.prog 109 #[.pointer (some ⟨r, 0, none⟩)] w fun e w' => e = .returned (.int .i64 0) ∧ w' = w := by
  go_enter Try.func109, Try.ntmps109
  go_wp2_with fail
  go_ret
  exact ⟨rfl, rfl⟩
theorem index_any (r g C s : Nat) (w : World) (h0 : w.cell? ⟨r, 0, none⟩ = some (.slice (some ⟨g, 0, none⟩) C C)) (hC : Cap C) :
    Calls Try.prog 96 #[.pointer (some ⟨r, 0, none⟩), .int .i64 (s : Int)] w fun e w' => e = .returned (.int .i64 ((s % C : Nat) : Int)) ∧ w' = w := by
  have hm := mask s C hC
  have HC := Lib.hid hC
  clear hC
  go_enter Try.func96, Try.ntmps96
  go_wp2_with (go_at_call 109; refine (cap_any r g C _ h0).mono ?_; rintro e w' ⟨rfl, rfl⟩)
  go_ret
  exact ⟨congrArg (fun z => Ending.returned (Value.int .i64 z)) (Int.natCast_emod s C).symm, rfl⟩
theorem begin_any (r b : Nat) (w : World) (h1 : w.cell? ⟨r, 1, none⟩ = some (.int .i64 (b : Int))) :
    Calls Try.prog 82 #[.pointer (some ⟨r, 0, none⟩)] w fun e w' => e = .returned (.int .i64 (b : Int)) ∧ w' = w := by
  go_enter Try.func82, Try.ntmps82
  go_wp2_with fail
  go_ret
  exact ⟨rfl, rfl⟩
theorem end_any (r b : Nat) (w : World) (h1 : w.cell? ⟨r, 2, none⟩ = some (.int .i64 (b : Int))) :
    Calls Try.prog 84 #[.pointer (some ⟨r, 0, none⟩)] w fun e w' => e = .returned (.int .i64 (b : Int)) ∧ w' = w := by
  go_enter Try.func84, Try.ntmps84
  go_wp2_with fail
  go_ret
  exact ⟨rfl, rfl⟩
def clamp (b e s : Nat) : Nat := if s < b then b else if e < s then e else s
theorem clamp_any (r b e s : Nat) (w : World) (h1 : w.cell? ⟨r, 1, none⟩ = some (.int .i64 (b : Int))) (h2 : w.cell? ⟨r, 2, none⟩ = some (.int .i64 (e : Int))) :
    Calls Try.prog 99 #[.pointer (some ⟨r, 0, none⟩), .int .i64 (s : Int)] w fun x w' => x = .returned (.int .i64 ((clamp b e s : Nat) : Int)) ∧ w' = w := by
  by_cases hb : s < b
  · have hc : clamp b e s = b := if_pos hb
    have HC := Lib.hid hc
    clear hc
    go_enter Try.func99, Try.ntmps99
    go_wp2_with fail
    go_ret
    exact ⟨by rw [HC.out]; rfl, rfl⟩
  · by_cases he : e < s
    · have hc : clamp b e s = e := by rw [clamp, if_neg hb, if_pos he]
      have HC := Lib.hid hc
      clear hc
      go_enter Try.func99, Try.ntmps99
      go_wp2_with fail
      go_ret
      exact ⟨by rw [HC.out]; rfl, rfl⟩
    · have hc : clamp b e s = s := by rw [clamp, if_neg hb, if_neg he]
      have HC := Lib.hid hc
      clear hc
      go_enter Try.func99, Try.ntmps99
      go_wp2_with fail
      go_ret
      exact ⟨by rw [HC.out]; rfl, rfl⟩

theorem get_any (r g C b e s : Nat) (f : Nat → Int) (w : World) (hM : MapAt w r g C b e f) :
    Calls Try.prog 94 #[.pointer (some ⟨r, 0, none⟩), .int .i64 (s : Int)] w fun x w' => x = .returned (.int .i64 (arr b e f s)) ∧ ∃ n, w' = w.drewN n := by
  obtain ⟨hC, h0, h1, h2, hbe, hrm, hsm, cs, hb, hsz, hrow⟩ := hM
  by_cases hl : s < b
  · have ha : arr b e f s = -1 := if_neg (by omega)
    have HA := Lib.hid ha
    clear ha hC hrow hsz hb hbe hrm hsm
    go_enter Try.func94, Try.ntmps94
    go_wp2_with fail
    go_ret
    exact ⟨by rw [HA.out]; rfl, 0, rfl⟩
  · by_cases he : s < e
    · have ha : arr b e f s = f s := if_pos (by omega)
      have hc := hrow s (by omega) he
      have hi := hb.cell (s % C)
      rw [hc] at hi
      have hlt : s % C < C := by have := hC; unfold Cap at this; exact Nat.mod_lt _ (by omega)
      obtain ⟨m, hm⟩ : ∃ m, s % C = m := ⟨_, rfl⟩
      have HI := index_any r g C s
      rw [hm] at hi hlt HI
      have HX := Lib.hid HI
      have HC := Lib.hid hC
      have HA := Lib.hid ha
      obtain ⟨v, hv⟩ : ∃ v, f s = v := ⟨_, rfl⟩
      rw [hv] at hi
      have HV := Lib.hid hv
      clear HI ha hC hrow hsz hb hbe hrm hsm hc hm hv
      go_enter Try.func94, Try.ntmps94
      go_upto_region 3 with fail
      go_quiet ((go_at_call 96; exact Calls.quiet_of_same (HX.out _ h0 HC.out)))
      go_wp2_with fail
      go_ret
      exact ⟨by rw [HA.out, HV.out]; rfl, _, rfl⟩
    · have ha : arr b e f s = -1 := if_neg (by omega)
      have HA := Lib.hid ha
      clear ha hC hrow hsz hb hbe hrm hsm
      go_enter Try.func94, Try.ntmps94
      go_wp2_with fail
      go_ret
      exact ⟨by rw [HA.out]; rfl, 0, rfl⟩
end Go.Proofs.Ytlkmmkphpiamcaa
