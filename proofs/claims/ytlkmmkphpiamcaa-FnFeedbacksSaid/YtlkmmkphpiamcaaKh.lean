/-
  The recorder: the unwrapper within it, maybeCullOldPackets, what the empty map answers. Condition: the recorder lies in its blocks; all numbers within 256. By an AI agent.
-/
import Derived.Test.YtlkmmkphpiamcaaKg
namespace Go.Proofs.Ytlkmmkphpiamcaa
open Go.RowKit

theorem getNil_any (r s : Nat) (w : World) (h1 : w.cell? ⟨r, 1, none⟩ = some (.int .i64 0)) (h2 : w.cell? ⟨r, 2, none⟩ = some (.int .i64 0)) :
    Calls Try.prog 94 #[.pointer (some ⟨r, 0, none⟩), .int .i64 (s : Int)] w fun x w' => x = .returned (.int .i64 (-1)) ∧ w' = w := by
  go_enter Try.func94, Try.ntmps94
  go_wp2_with fail
  go_ret
  exact ⟨rfl, rfl⟩
theorem hasNil_any (r s : Nat) (w : World) (h1 : w.cell? ⟨r, 1, none⟩ = some (.int .i64 0)) (h2 : w.cell? ⟨r, 2, none⟩ = some (.int .i64 0)) :
    Calls Try.prog 80 #[.pointer (some ⟨r, 0, none⟩), .int .i64 (s : Int)] w fun x w' => x = .returned (.bool false) ∧ w' = w := by
  go_enter Try.func80, Try.ntmps80
  go_wp2_with (go_at_call 94; refine (getNil_any r s _ h1 h2).mono ?_; rintro e w' ⟨rfl, hw⟩; obtain rfl := hw.symm; clear hw)
  go_ret
  exact ⟨rfl, rfl⟩

/-- Numbers within 200 of one another: the unwrapper tells them. -/
theorem unwrapF_near (L x : Nat) (h1 : x < L + 200) (h2 : L < x + 200) : unwrapF (L : Int) ((x % 65536 : Nat) : Int) = (x : Int) := by
  unfold unwrapF newer
  by_cases h : L ≤ x
  · obtain ⟨d, rfl⟩ : ∃ d, x = L + d := ⟨x - L, by omega⟩
    rcases Nat.eq_zero_or_pos d with rfl | hd
    · rw [if_neg (by split <;> simp_all <;> omega), if_neg (by omega)]
      omega
    · rw [if_pos (by split <;> simp_all <;> omega)]
      omega
  · obtain ⟨d, rfl⟩ : ∃ d, L = x + d := ⟨L - x, by omega⟩
    rw [if_neg (by split <;> simp_all <;> omega), if_pos (by omega)]
    omega

theorem put34C (s : Value) (b e : Nat) (i i' : Bool) (L L' : Nat) (p : Option Addr) (sd md : Int) (cnt held : Nat) :
    ((recC s b e (restC i L p sd md cnt held)).setIfInBounds 3 (.bool i')).setIfInBounds 4 (.int .i64 (L' : Int)) = recC s b e (restC i' L' p sd md cnt held) := by simp [recC, restC]
theorem put4C (s : Value) (b e : Nat) (i : Bool) (L L' : Nat) (p : Option Addr) (sd md : Int) (cnt held : Nat) :
    (recC s b e (restC i L p sd md cnt held)).setIfInBounds 4 (.int .i64 (L' : Int)) = recC s b e (restC i L' p sd md cnt held) := by simp [recC, restC]

set_option maxHeartbeats 1000000 in
theorem unwrapAt_first (r b e L x : Nat) (S : Value) (p : Option Addr) (sd md : Int) (cnt held : Nat) (w : World) (hR : Blk w r 154 (recC S b e (restC false L p sd md cnt held))) (hx : x ≤ 65535) :
    Calls Try.prog 34 #[.pointer (some ⟨r, 3, none⟩), .int .u16 (x : Int)] w fun v w' => v = .returned (.int .i64 (x : Int)) ∧ Blk w' r 154 (recC S b e (restC true x p sd md cnt held)) ∧ Touch (· = r) w w' := by
  have c3 := hR.cell 3
  have c4 := hR.cell 4
  have f3 := hR.free 3
  have f4 := hR.free 4
  simp [recC, restC] at c3 c4
  have hfin : Blk ((w.setCell ⟨r, 3, none⟩ (.bool true)).setCell ⟨r, 4, none⟩ (.int .i64 (x : Int))) r 154 (recC S b e (restC true x p sd md cnt held)) ∧ Touch (· = r) w ((w.setCell ⟨r, 3, none⟩ (.bool true)).setCell ⟨r, 4, none⟩ (.int .i64 (x : Int))) := by
    refine ⟨?_, ((Touch.refl (· = r) w).setCell (p := ⟨r, 3, none⟩) (fun _ => rfl) _).setCell (p := ⟨r, 4, none⟩) (fun _ => rfl) _⟩
    have h := (hR.put 3 (.bool true)).put 4 (.int .i64 (x : Int))
    rwa [put34C] at h
  have HF := Lib.hid hfin
  clear hR hfin
  go_enter Try.func34, Try.ntmps34
  go_wp2
  go_ret
  exact ⟨rfl, HF.out⟩

set_option maxHeartbeats 1000000 in
theorem unwrapAt_cell (r : Nat) (l x : Int) (w : World) (c3 : w.cell? ⟨r, 3, none⟩ = some (.bool true)) (c4 : w.cell? ⟨r, 4, none⟩ = some (.int .i64 l)) (f4 : w.frozen? ⟨r, 4, none⟩ = false) (_x0 : 0 ≤ x) (_x1 : x ≤ 65535) (l0 : 0 ≤ l) (l1 : l ≤ 140737488355328) :
    Calls Try.prog 34 #[.pointer (some ⟨r, 3, none⟩), .int .u16 x] w fun e w' => e = .returned (.int .i64 (unwrapF l x)) ∧ w' = w.setCell ⟨r, 4, none⟩ (.int .i64 (unwrapF l x)) := by
  obtain ⟨d, hd, d0, d1, hd'⟩ : ∃ d, IntKind.u16.wrap (x - IntKind.u16.wrap l) = d ∧ 0 ≤ d ∧ d ≤ 65535 ∧ d = (x - l) % 65536 :=
    ⟨_, rfl, by rw [IntKind.wrap_u16]; omega, by rw [IntKind.wrap_u16]; omega, by simp only [IntKind.wrap_u16]; omega⟩
  have HD := Lib.hid hd'
  clear hd'
  obtain ⟨y, hy, hy'⟩ : ∃ y, IntKind.u16.wrap l = y ∧ y = l % 65536 := ⟨_, rfl, by rw [IntKind.wrap_u16]⟩
  have HY := Lib.hid hy'
  clear hy'
  rw [hy] at hd
  obtain ⟨q, hr⟩ : ∃ r, unwrapF l x = r := ⟨_, rfl⟩
  have HR := Lib.hid hr
  rw [hr]
  clear hr
  by_cases hn : newer x y = true
  · go_enter Try.func34, Try.ntmps34
    go_wp2_with (go_at_call 62; refine (newer_any _ _ _).mono ?_; rintro e w' ⟨rfl, rfl⟩)
    go_ret
    have e1 : l + d = q := by rw [← HR.out, unwrapF, ← HY.out, if_pos hn, HD.out]
    simp [e1]
  · have hn2 : newer x y = false := by simpa using hn
    clear hn
    have hR : q = if 0 < d ∧ 0 ≤ l + d - 65536 then l + d - 65536 else l + d := by
      rw [← HR.out, unwrapF, ← HY.out, if_neg (by simp [hn2]), HD.out]
    have HR2 := Lib.hid hR
    clear hR
    by_cases h1 : 0 < d
    · by_cases h2 : 0 ≤ l + d - 65536
      · go_enter Try.func34, Try.ntmps34
        go_wp2_with (go_at_call 62; refine (newer_any _ _ _).mono ?_; rintro e w' ⟨rfl, rfl⟩)
        go_ret
        have e1 : l + (d - 65536) = q := by rw [HR2.out, if_pos ⟨h1, h2⟩]; omega
        simp [e1]
      · go_enter Try.func34, Try.ntmps34
        go_wp2_with (go_at_call 62; refine (newer_any _ _ _).mono ?_; rintro e w' ⟨rfl, rfl⟩)
        go_ret
        have e1 : l + d = q := by rw [HR2.out, if_neg (by omega)]
        simp [e1]
    · go_enter Try.func34, Try.ntmps34
      go_wp2_with (go_at_call 62; refine (newer_any _ _ _).mono ?_; rintro e w' ⟨rfl, rfl⟩)
      go_ret
      have e1 : l + d = q := by rw [HR2.out, if_neg (by omega)]
      simp [e1]

theorem unwrapAt_next (r g C b e p s L x : Nat) (F : Nat → Int) (sd md : Int) (cnt held : Nat) (w : World) (hR : RecAt w r g C b e F p s L sd md cnt held) (h1 : x < L + 200) (h2 : L < x + 200) (hL : L ≤ 140737488355328) :
    Calls Try.prog 34 #[.pointer (some ⟨r, 3, none⟩), .int .u16 ((x % 65536 : Nat) : Int)] w fun v w' => v = .returned (.int .i64 (x : Int)) ∧ RecAt w' r g C b e F p s x sd md cnt held ∧ Touch (· = r) w w' := by
  have c3 := hR.mp.blk.cell 3
  have c4 := hR.mp.blk.cell 4
  simp [recC, restC] at c3 c4
  refine (unwrapAt_cell r (L : Int) ((x % 65536 : Nat) : Int) w c3 c4 (hR.mp.blk.free 4) (by omega) (by omega) (by omega) (by omega)).mono ?_
  rintro v w' ⟨rfl, rfl⟩
  rw [unwrapF_near L x h1 h2]
  have hrg := hR.mp.ne
  have hrp := hR.rp
  obtain ⟨cs, hb, hz, hrow⟩ := hR.mp.row
  refine ⟨rfl, ⟨.of hR.mp.cap ?_ hR.mp.be hR.mp.room hR.mp.small (hb.far (p := ⟨r, 4, none⟩) hrg.symm _) hz hrow, hR.box.far (p := ⟨r, 4, none⟩) hrp.symm _, hR.ne⟩, (Touch.refl (· = r) w).setCell (p := ⟨r, 4, none⟩) (fun _ => rfl) _⟩
  have h := hR.mp.blk.put 4 (.int .i64 (x : Int))
  rwa [put4C] at h
end Go.Proofs.Ytlkmmkphpiamcaa
