/-
  get, IsPowerOfTwo and newReceiveLog of the receive log. Conditions: sizes from 64 on; numbers of 16 bits. By an AI agent.
-/
import Derived.Test.YtlkmmkphpiamcaaH
namespace Go.Proofs.Ytlkmmkphpiamcaa
open Go.RowKit

set_option maxRecDepth 1000000 in
set_option maxHeartbeats 800000 in
theorem get_any (g p : Nat) (L : Log) (s : Nat) (w : World) (hL : LogAt w g p L) (hs : s ≤ 65535) :
    Calls Try.prog 65 #[.pointer (some ⟨g, 0, none⟩), .int .u16 s] w fun e w' =>
      e = .returned (.bool (decide ((L.top + (65536 - s)) % 65536 < 32768 ∧ (L.top + (65536 - s)) % 65536 < L.size) && L.has s)) ∧ w = w' := by
  obtain ⟨k1, k2, k3, k4, k5⟩ := hL.1
  have hb := hL.2.1
  have c1 : w.cell? ⟨g, 1, none⟩ = some (.int .u16 L.size) := by simpa [logCells] using hb.cell 1
  have c2 : w.cell? ⟨g, 2, none⟩ = some (.int .u16 L.top) := by simpa [logCells] using hb.cell 2
  have hd' := u16_sub L.top s hs
  obtain ⟨D, hIv, hD, hI, hI0⟩ : ∃ (D : Nat) (I : Int), (L.top + (65536 - s)) % 65536 = D ∧ (D : Int) = I ∧ 0 ≤ I := ⟨_, _, rfl, rfl, by omega⟩
  rw [hD] at hd' ⊢
  rw [hI] at hd'
  have HL := Lib.hid hL
  have HI := Lib.hid hI
  clear hL hD hb k3 hI
  obtain ⟨r, hr⟩ : ∃ r, (decide (D < 32768 ∧ D < L.size) && L.has s) = r := ⟨_, rfl⟩
  have HR := Lib.hid hr
  rw [hr]
  clear hr
  by_cases h1 : hIv < 32768
  · by_cases h2 : hIv < (L.size : Int)
    · go_enter Try.func65, Try.ntmps65
      go_wp2_with (go_at_call 89; refine (getReceived_any g p L s _ HL.out hs).mono ?_; rintro e w' ⟨rfl, rfl⟩)
      go_ret
      have := HI.out
      rw [← HR.out]
      simp [show D < 32768 by omega, show D < L.size by omega]
    · go_enter Try.func65, Try.ntmps65
      go_wp2_with fail
      go_ret
      have := HI.out
      rw [← HR.out]
      simp [show ¬ D < L.size by omega]
  · go_enter Try.func65, Try.ntmps65
    go_wp2_with fail
    go_ret
    have := HI.out
    rw [← HR.out]
    simp [show ¬ D < 32768 by omega]

theorem zzget_any (g p : Nat) (L : Log) (s : Nat) (w : World) (hL : LogAt w g p L) (hs : s ≤ 65535) :
    Calls Try.prog 37 #[.pointer (some ⟨g, 0, none⟩), .int .u16 s] w fun e w' =>
      e = .returned (.bool (decide ((L.top + (65536 - s)) % 65536 < 32768 ∧ (L.top + (65536 - s)) % 65536 < L.size) && L.has s)) ∧ w = w' := by
  obtain ⟨r, hr⟩ : ∃ r, (decide ((L.top + (65536 - s)) % 65536 < 32768 ∧ (L.top + (65536 - s)) % 65536 < L.size) && L.has s) = r := ⟨_, rfl⟩
  have HC := Lib.hid (get_any g p L s w hL hs)
  rw [hr] at HC ⊢
  clear hL hr
  go_enter Try.func37, Try.ntmps37
  go_wp2_with fail
  refine HC.out.mono ?_
  rintro e w' ⟨rfl, rfl⟩
  go_wp2_with fail
  go_ret
  exact ⟨rfl, rfl⟩

def IsPow (size : Nat) : Prop := ∃ i, i < 16 ∧ size = 2 ^ i

theorem pow_wrap (k : Nat) (h : k < 16) : IntKind.u16.wrap (2 ^ k) = ((2 ^ k : Nat) : Int) := by
  have h2 : 2 ^ k ≤ 2 ^ 15 := Nat.pow_le_pow_right (by omega) (by omega)
  rw [IntKind.wrap_u16]
  have e : ((2 : Int) ^ k) = ((2 ^ k : Nat) : Int) := by simp
  rw [e]
  generalize 2 ^ k = q at *
  omega

def PowPost (size : Nat) (w : World) (e : Ending) (w' : World) : Prop :=
  w = w' ∧ ((IsPow size ∧ e = .returned .nilIface) ∨ (¬ IsPow size ∧ ∃ s, e = .returned (.iface 211 (.string s))))

set_option maxHeartbeats 800000 in
theorem isPower_any (size : Nat) (w : World) : Calls Try.prog 105 #[.int .u16 size] w (PowPost size w) := by
  go_enter Try.func105, Try.ntmps105
  go_wp2_with fail
  go_loop [4] (fun v => ∃ k : Nat, v = .int .i64 k ∧ k ≤ 16 ∧ Hid (∀ j, j < k → size ≠ 2 ^ j)) (fun v => 16 - (intOf v).toNat)
  case atStart => exact ⟨0, rfl, by omega, fun j hj => by omega⟩
  case round =>
    obtain ⟨k, rfl, hk, hno⟩ := hrel
    by_cases hlt : k < 16
    · have hp := pow_wrap k hlt
      by_cases he : size = 2 ^ k
      · have hE : ((size : Int) == IntKind.u16.wrap (2 ^ k)) = true := by rw [hp, he]; simp
        have HE := Lib.hid he
        clear hp he
        go_wp2_with fail
        go_ret
        exact ⟨rfl, .inl ⟨⟨k, hlt, HE.out⟩, rfl⟩⟩
      · have hE : ((size : Int) == IntKind.u16.wrap (2 ^ k)) = false := by rw [hp]; simp; exact_mod_cast he
        have HE := Lib.hid he
        clear hp he
        go_wp2_with fail
        refine ⟨⟨k + 1, by go_num, by omega, fun j hj => ?_⟩, by simp [intOf]; omega⟩
        rcases Nat.lt_or_ge j k with h | h
        · exact hno.out j h
        · obtain rfl : j = k := by omega
          exact HE.out
    · obtain rfl : k = 16 := by omega
      go_wp2_with fail
      go_ret
      refine ⟨rfl, .inr ⟨?_, _, rfl⟩⟩
      rintro ⟨i, hi, he⟩
      exact hno.out i hi he

theorem info_u64 : (Try.prog.info? 205).map (fun i => (i.zero, i.size, i.bytes)) = some (some (.int .u64 0), 1, 8) := by kernel_rfl
theorem info_u16 : (Try.prog.info? 33).map (fun i => (i.zero, i.size, i.bytes)) = some (some (.int .u16 0), 1, 2) := by kernel_rfl
def zeroRow (k : IntKind) (m : Nat) : Array Value := (List.replicate m (Value.int k 0)).toArray

theorem make_row {P : Program} {t e : TypeId} {i : TypeInfo} {k : IntKind} {by_ : Nat} (ht : P.underlying t = some (.slice e)) (hi : P.info? e = some i) (hz : i.zero = some (.int k 0)) (hs : i.size = 1) (hb : i.bytes = by_)
    (kl kc : IntKind) (l : Int) (m : Nat) (hl : l = (m : Int)) (hm : by_ * m ≤ 281474976710656) (h63 : m ≤ 9223372036854775807) (w : World) :
    (Instr.makeSlice t (.int kl l) (.int kc l)).run P w = .ok (.slice (some ⟨w.heap.size, 0, none⟩) m m) (w.alloc (.cells (zeroRow k m) e)) := by
  subst hl
  have hbm : (i.bytes : Int) * (m : Int) ≤ 281474976710656 := by
    have h0 : ((by_ * m : Nat) : Int) ≤ 281474976710656 := by omega
    rw [hb]
    rwa [Int.natCast_mul] at h0
  have h := run_make (P := P) w t e i (.int k 0) ht hi hz kl kc m m (by omega) (by omega) hbm (by omega)
  rw [h, hs]
  simp only [Int.toNat_natCast, Nat.mul_one]
  have : madeCells (Value.int k 0).cells m = zeroRow k m := by
    apply Array.ext'
    have := toList_madeCells_one (.int k 0) m
    simpa [zeroRow, Value.cells] using this
  rw [this]

def freshLog (size : Nat) : Log := { bits := fun _ => false, size := size, top := 0, started := false, last := 0 }
theorem fresh_at {w : World} {g p size : Nat} (h0 : 64 ≤ size) (h1 : size ≤ 32768) (h2 : size % 64 = 0) (hb : Blk w g 179 (logCells p (freshLog size))) (hp : Blk w p 205 (zeroRow .u64 (size / 64))) : LogAt w g p (freshLog size) := by
  refine ⟨⟨h0, h1, h2, by simp [freshLog], by simp [freshLog]⟩, hb, List.replicate (size / 64) 0, ⟨by simp [freshLog], fun x hx => ?_, fun q hq => ?_⟩, ?_⟩
  · rw [(List.mem_replicate.1 hx).2]
    decide
  · have : (List.replicate (size / 64) 0).getD (q / 64) 0 = 0 := by
      rw [List.getD, List.getElem?_replicate]
      split <;> rfl
    rw [this]
    simp [freshLog]
  · simpa [zeroRow] using hp

def NewPost (size : Nat) (w : World) (e : Ending) (w' : World) : Prop :=
  Below w.heap.size w w' ∧ ((IsPow size ∧ ∃ g p, e = .returned (.tuple #[.pointer (some ⟨g, 0, none⟩), .nilIface]) ∧ w.heap.size ≤ g ∧ w.heap.size ≤ p ∧ LogAt w' g p (freshLog size)) ∨
    (¬ IsPow size ∧ ∃ t s, e = .returned (.tuple #[.pointer none, .iface t (.string s)])))

theorem pow_parts {size : Nat} (h : IsPow size) (h0 : 64 ≤ size) : size ≤ 32768 ∧ size % 64 = 0 := by
  obtain ⟨i, hi, rfl⟩ := h
  have : i = 0 ∨ i = 1 ∨ i = 2 ∨ i = 3 ∨ i = 4 ∨ i = 5 ∨ i = 6 ∨ i = 7 ∨ i = 8 ∨ i = 9 ∨ i = 10 ∨ i = 11 ∨ i = 12 ∨ i = 13 ∨ i = 14 ∨ i = 15 := by omega
  rcases this with rfl | rfl | rfl | rfl | rfl | rfl | rfl | rfl | rfl | rfl | rfl | rfl | rfl | rfl | rfl | rfl <;> simp at h0 ⊢

set_option maxHeartbeats 800000 in
theorem newLog_any (size : Nat) (w : World) (h0 : 64 ≤ size) (h1 : size ≤ 65535) : Calls Try.prog 87 #[.int .u16 size] w (NewPost size w) := by
  obtain ⟨i0, hi0, hz0, hz1, hz2⟩ := info_parts info_u64
  have hmk := fun W => make_row (P := Try.prog) (t := 177) (e := 205) Try.underlying177 hi0 hz0 hz1 hz2 .u16 .u16 ((size : Int) / 64) (size / 64) (by omega) (by omega) (by omega) W
  go_enter Try.func87, Try.ntmps87
  go_wp2_with fail
  refine (isPower_any size w).mono ?_
  rintro e w' ⟨rfl, ⟨hp, rfl⟩ | ⟨hp, s, rfl⟩⟩
  · have HP := Lib.hid hp
    clear hp
    go_wp2_with fail
    go_ret2
    obtain ⟨q1, q2⟩ := pow_parts HP.out h0
    refine ⟨((Below.refl _ _).alloc (Nat.le_refl _) _).alloc (by simp) _, .inl ⟨HP.out, w.heap.size + 1, w.heap.size, rfl, by omega, by omega, ?_⟩⟩
    refine fresh_at h0 q1 q2 ?_ ?_
    · have := Blk.new (w.alloc (.cells (zeroRow .u64 (size / 64)) 205)) 179 (logCells w.heap.size (freshLog size))
      simpa [logCells, freshLog] using this
    · exact (Blk.new w 205 _).alloc _
  · have HP := Lib.hid hp
    clear hp
    go_wp2_with fail
    go_ret2
    exact ⟨Below.refl _ _, .inr ⟨HP.out, _, _, rfl⟩⟩

set_option maxHeartbeats 800000 in
theorem zznew_any (size : Nat) (w : World) (h0 : 64 ≤ size) (h1 : size ≤ 65535) : Calls Try.prog 63 #[.int .u16 size] w (NewPost size w) := by
  go_enter Try.func63, Try.ntmps63
  go_wp2_with fail
  refine (newLog_any size w h0 h1).mono ?_
  rintro e w' ⟨hb, ⟨hp, g, p, rfl, hg, hpp, hL⟩ | ⟨hp, t, s, rfl⟩⟩
  · have H := Lib.hid hb
    have HL := Lib.hid hL
    clear hb hL
    go_wp2_with fail
    go_ret2
    exact ⟨H.out, .inl ⟨hp, g, p, rfl, hg, hpp, HL.out⟩⟩
  · have H := Lib.hid hb
    clear hb
    go_wp2_with fail
    go_ret2
    exact ⟨H.out, .inr ⟨hp, _, _, rfl⟩⟩
end Go.Proofs.Ytlkmmkphpiamcaa
