/-
  The contracts of Near, isNewer and the unwrapper's one step. Conditions: the numbers are of 16 bits, the last one not below 0 and not greater than 2 to the 47th.  By an AI agent.
-/
import Derived.Test.YtlkmmkphpiamcaaA
import Derived.BigQuiet
import Derived.Deep.QuietTactic
import Derived.Deep.RegionHeld3
import Derived.Deep.AppendLies
import Derived.Deep.RegionLaw
import Derived.Deep.DeepCutAuto
import Derived.Deep.LoopGhost
import Derived.Laws.BitsAllLaws
namespace Go.Proofs.Ytlkmmkphpiamcaa
open Go.RowKit

theorem wrap_i16 (n : Int) : IntKind.i16.wrap n = (n + 32768) % 65536 - 32768 := by
  simp only [IntKind.wrap, IntKind.bits, IntKind.signed]
  simp
  split <;> omega

/-- The difference, taken as near to 0 as it goes. -/
def nearD (n x : Int) : Int := (x - n + 32768) % 65536 - 32768

theorem nearD_eq (n x : Int) : wrap64 (IntKind.i16.wrap (IntKind.u16.wrap (x - IntKind.u16.wrap n))) = nearD n x := by
  rw [IntWalk.wrap64_in _ (by rw [wrap_i16]; omega), wrap_i16, IntKind.wrap_u16, IntKind.wrap_u16]
  unfold nearD
  omega
theorem nearD_range (n x : Int) : -32768 ≤ nearD n x ∧ nearD n x ≤ 32767 := by unfold nearD; omega

set_option maxHeartbeats 400000 in
theorem near_any (n x : Int) (w : World) (h0 : -1 ≤ n) (h1 : n ≤ 140737488355328) :
    Calls Try.prog 31 #[.int .i64 n, .int .u16 x] w fun e w' => e = .returned (.tuple #[.int .i64 (n + nearD n x), .bool (nearD n x != -32768)]) ∧ w = w' := by
  go_enter Try.func31, Try.ntmps31
  go_wp2
  go_ret2
  have h := nearD_range n x
  simp only [nearD_eq]
  simp [IntWalk.wrap64_in (n + nearD n x) (by omega)]

/-- Is a number newer than another one (of 16 bits)? -/
def newer (a b : Int) : Bool := if (a - b) % 65536 = 32768 then decide (b < a) else decide (a ≠ b ∧ (a - b) % 65536 < 32768)

set_option maxHeartbeats 400000 in
theorem newer_any (a b : Int) (w : World) :
    Calls Try.prog 62 #[.int .u16 a, .int .u16 b] w fun e w' => e = .returned (.bool (newer a b)) ∧ w = w' := by
  go_enter Try.func62, Try.ntmps62
  go_wp2
  · go_ret
    rename_i h
    refine ⟨?_, rfl⟩
    simp only [beq_iff_eq, IntKind.wrap_u16] at h
    simp [newer, h]
  · go_ret
    rename_i h h2
    subst h2
    exact ⟨by simp [newer], rfl⟩
  · go_ret
    rename_i h h2
    refine ⟨?_, rfl⟩
    simp only [beq_eq_false_iff_ne, IntKind.wrap_u16] at h
    simp [newer, h, h2, IntKind.wrap_u16]

/-- One step of the unwrapper behind the first one: the difference d (of 16 bits), whether the number is newer. -/
def unwrapF (last x : Int) : Int :=
  if newer x (last % 65536) then last + (x - last) % 65536
  else if 0 < (x - last) % 65536 ∧ 0 ≤ last + (x - last) % 65536 - 65536 then last + (x - last) % 65536 - 65536 else last + (x - last) % 65536

set_option maxHeartbeats 400000 in
theorem unwrap_first (g : Nat) (l x : Int) (w : World) (hb : Blk w g 84 #[.bool false, .int .i64 l]) (x0 : 0 ≤ x) (x1 : x ≤ 65535) :
    Calls Try.prog 34 #[.pointer (some ⟨g, 0, none⟩), .int .u16 x] w fun e w' => e = .returned (.int .i64 x) ∧ w' = (w.setCell ⟨g, 0, none⟩ (.bool true)).setCell ⟨g, 1, none⟩ (.int .i64 x) := by
  have c0 := hb.cell 0
  have c1 := hb.cell 1
  have f0 := hb.free 0
  have f1 := hb.free 1
  simp at c0 c1
  have HB := Lib.hid hb
  clear hb
  go_enter Try.func34, Try.ntmps34
  go_wp2
  go_ret
  exact ⟨rfl, rfl⟩

set_option maxHeartbeats 400000 in
theorem unwrap_next (g : Nat) (l x : Int) (w : World) (hb : Blk w g 84 #[.bool true, .int .i64 l]) (_x0 : 0 ≤ x) (_x1 : x ≤ 65535) (l0 : 0 ≤ l) (l1 : l ≤ 140737488355328) :
    Calls Try.prog 34 #[.pointer (some ⟨g, 0, none⟩), .int .u16 x] w fun e w' => e = .returned (.int .i64 (unwrapF l x)) ∧ w' = w.setCell ⟨g, 1, none⟩ (.int .i64 (unwrapF l x)) := by
  have c0 := hb.cell 0
  have c1 := hb.cell 1
  have f0 := hb.free 0
  have f1 := hb.free 1
  simp at c0 c1
  have HB := Lib.hid hb
  clear hb
  obtain ⟨d, hd, d0, d1, hd'⟩ : ∃ d, IntKind.u16.wrap (x - IntKind.u16.wrap l) = d ∧ 0 ≤ d ∧ d ≤ 65535 ∧ d = (x - l) % 65536 :=
    ⟨_, rfl, by rw [IntKind.wrap_u16]; omega, by rw [IntKind.wrap_u16]; omega, by simp only [IntKind.wrap_u16]; omega⟩
  have HD := Lib.hid hd'
  clear hd'
  obtain ⟨y, hy, hy'⟩ : ∃ y, IntKind.u16.wrap l = y ∧ y = l % 65536 := ⟨_, rfl, by rw [IntKind.wrap_u16]⟩
  have HY := Lib.hid hy'
  clear hy'
  rw [hy] at hd
  obtain ⟨r, hr⟩ : ∃ r, unwrapF l x = r := ⟨_, rfl⟩
  have HR := Lib.hid hr
  rw [hr]
  clear hr
  by_cases hn : newer x y = true
  · go_enter Try.func34, Try.ntmps34
    go_wp2_with (go_at_call 62; refine (newer_any _ _ _).mono ?_; rintro e w' ⟨rfl, rfl⟩)
    go_ret
    have e1 : l + d = r := by rw [← HR.out, unwrapF, ← HY.out, if_pos hn, HD.out]
    simp [e1]
  · have hn2 : newer x y = false := by simpa using hn
    clear hn
    have hR : r = if 0 < d ∧ 0 ≤ l + d - 65536 then l + d - 65536 else l + d := by
      rw [← HR.out, unwrapF, ← HY.out, if_neg (by simp [hn2]), HD.out]
    have HR2 := Lib.hid hR
    clear hR
    by_cases h1 : 0 < d
    · by_cases h2 : 0 ≤ l + d - 65536
      · go_enter Try.func34, Try.ntmps34
        go_wp2_with (go_at_call 62; refine (newer_any _ _ _).mono ?_; rintro e w' ⟨rfl, rfl⟩)
        go_ret
        have e1 : l + (d - 65536) = r := by rw [HR2.out, if_pos ⟨h1, h2⟩]; omega
        simp [e1]
      · go_enter Try.func34, Try.ntmps34
        go_wp2_with (go_at_call 62; refine (newer_any _ _ _).mono ?_; rintro e w' ⟨rfl, rfl⟩)
        go_ret
        have e1 : l + d = r := by rw [HR2.out, if_neg (by omega)]
        simp [e1]
    · go_enter Try.func34, Try.ntmps34
      go_wp2_with (go_at_call 62; refine (newer_any _ _ _).mono ?_; rintro e w' ⟨rfl, rfl⟩)
      go_ret
      have e1 : l + d = r := by rw [HR2.out, if_neg (by omega)]
      simp [e1]
/-- The unwrapper, called in whatever state. -/
def stepF (b : Bool) (l x : Int) : Int := if b then unwrapF l x else x
theorem unwrap_any (g : Nat) (b : Bool) (l x : Int) (w : World) (hb : Blk w g 84 #[.bool b, .int .i64 l]) (x0 : 0 ≤ x) (x1 : x ≤ 65535) (l0 : 0 ≤ l) (l1 : l ≤ 140737488355328) :
    Calls Try.prog 34 #[.pointer (some ⟨g, 0, none⟩), .int .u16 x] w fun e w' => e = .returned (.int .i64 (stepF b l x)) ∧
      Blk w' g 84 #[.bool true, .int .i64 (stepF b l x)] ∧ w'.heap.size = w.heap.size ∧ Touch (· = g) w w' := by
  cases b
  · refine (unwrap_first g l x w hb x0 x1).mono ?_
    rintro e w' ⟨rfl, rfl⟩
    refine ⟨rfl, ?_, by simp [World.setCell], ((Touch.refl (· = g) w).setCell (p := ⟨g, 0, none⟩) (fun _ => rfl) _).setCell (p := ⟨g, 1, none⟩) (fun _ => rfl) _⟩
    simpa [stepF] using (hb.put 0 (.bool true)).put 1 (.int .i64 x)
  · refine (unwrap_next g l x w hb x0 x1 l0 l1).mono ?_
    rintro e w' ⟨rfl, rfl⟩
    refine ⟨rfl, ?_, by simp [World.setCell], (Touch.refl (· = g) w).setCell (p := ⟨g, 1, none⟩) (fun _ => rfl) _⟩
    simpa [stepF] using hb.put 1 (.int .i64 (unwrapF l x))
end Go.Proofs.Ytlkmmkphpiamcaa
