/-
  The receive log: new, get, missing, logged. By an AI agent.
-/
import Derived.Test.YtlkmmkphpiamcaaDoorB
namespace Go.Proofs.YtlkmmkphpiamcaaDoor
open Go.RowKit

open Go.RowKit
def IsPow (size : Nat) : Prop := ∃ i, i < 16 ∧ size = 2 ^ i

theorem pow_wrap (k : Nat) (h : k < 16) : IntKind.u16.wrap (2 ^ k) = ((2 ^ k : Nat) : Int) := by
  have h2 : 2 ^ k ≤ 2 ^ 15 := Nat.pow_le_pow_right (by omega) (by omega)
  rw [IntKind.wrap_u16]
  have e : ((2 : Int) ^ k) = ((2 ^ k : Nat) : Int) := by simp
  rw [e]
  generalize 2 ^ k = q at *
  omega

def PowPost (size : Nat) (w : World) (e : Ending) (w' : World) : Prop :=
  w = w' ∧ ((IsPow size ∧ e = .returned .nilIface) ∨ (¬ IsPow size ∧ ∃ s, e = .returned (.iface 99 (.string s))))

set_option maxHeartbeats 800000 in
theorem isPower_any (size : Nat) (w : World) : Calls Tryd.prog 40 #[.int .u16 size] w (PowPost size w) := by
  go_enter Tryd.func40, Tryd.ntmps40
  go_wp2_with fail
  go_loop [4] (fun v => ∃ k : Nat, v = .int .i64 k ∧ k ≤ 16 ∧ Hid (∀ j, j < k → size ≠ 2 ^ j)) (fun v => 16 - (intOf v).toNat)
  case atStart => exact ⟨0, rfl, by omega, fun j hj => by omega⟩
  case round =>
    obtain ⟨k, rfl, hk, hno⟩ := hrel
    by_cases hlt : k < 16
    · have hp := pow_wrap k hlt
      by_cases he : size = 2 ^ k
      · have hE : ((size : Int) == IntKind.u16.wrap (2 ^ k)) = true := by rw [hp, he]; simp
        have HE := Lib.hid he
        clear hp he
        go_wp2_with fail
        go_ret
        exact ⟨rfl, .inl ⟨⟨k, hlt, HE.out⟩, rfl⟩⟩
      · have hE : ((size : Int) == IntKind.u16.wrap (2 ^ k)) = false := by rw [hp]; simp; exact_mod_cast he
        have HE := Lib.hid he
        clear hp he
        go_wp2_with fail
        refine ⟨⟨k + 1, by go_num, by omega, fun j hj => ?_⟩, by simp [intOf]; omega⟩
        rcases Nat.lt_or_ge j k with h | h
        · exact hno.out j h
        · obtain rfl : j = k := by omega
          exact HE.out
    · obtain rfl : k = 16 := by omega
      go_wp2_with fail
      go_ret
      refine ⟨rfl, .inr ⟨?_, _, rfl⟩⟩
      rintro ⟨i, hi, he⟩
      exact hno.out i hi he

theorem info_u64 : (Tryd.prog.info? 81).map (fun i => (i.zero, i.size, i.bytes)) = some (some (.int .u64 0), 1, 8) := by kernel_rfl
theorem info_u16 : (Tryd.prog.info? 32).map (fun i => (i.zero, i.size, i.bytes)) = some (some (.int .u16 0), 1, 2) := by kernel_rfl
def zeroRow (k : IntKind) (m : Nat) : Array Value := (List.replicate m (Value.int k 0)).toArray

theorem make_row {P : Program} {t e : TypeId} {i : TypeInfo} {k : IntKind} {by_ : Nat} (ht : P.underlying t = some (.slice e)) (hi : P.info? e = some i) (hz : i.zero = some (.int k 0)) (hs : i.size = 1) (hb : i.bytes = by_)
    (kl kc : IntKind) (l : Int) (m : Nat) (hl : l = (m : Int)) (hm : by_ * m ≤ 281474976710656) (h63 : m ≤ 9223372036854775807) (w : World) :
    (Instr.makeSlice t (.int kl l) (.int kc l)).run P w = .ok (.slice (some ⟨w.heap.size, 0, none⟩) m m) (w.alloc (.cells (zeroRow k m) e)) := by
  subst hl
  have hbm : (i.bytes : Int) * (m : Int) ≤ 281474976710656 := by
    have h0 : ((by_ * m : Nat) : Int) ≤ 281474976710656 := by omega
    rw [hb]
    rwa [Int.natCast_mul] at h0
  have h := run_make (P := P) w t e i (.int k 0) ht hi hz kl kc m m (by omega) (by omega) hbm (by omega)
  rw [h, hs]
  simp only [Int.toNat_natCast, Nat.mul_one]
  have : madeCells (Value.int k 0).cells m = zeroRow k m := by
    apply Array.ext'
    have := toList_madeCells_one (.int k 0) m
    simpa [zeroRow, Value.cells] using this
  rw [this]

def freshLog (size : Nat) : Log := { bits := fun _ => false, size := size, top := 0, started := false, last := 0 }
theorem fresh_at {w : World} {g p size : Nat} (h0 : 64 ≤ size) (h1 : size ≤ 32768) (h2 : size % 64 = 0) (hb : Blk w g 97 (logCells p (freshLog size))) (hp : Blk w p 81 (zeroRow .u64 (size / 64))) : LogAt w g p (freshLog size) := by
  refine ⟨⟨h0, h1, h2, by simp [freshLog], by simp [freshLog]⟩, hb, List.replicate (size / 64) 0, ⟨by simp [freshLog], fun x hx => ?_, fun q hq => ?_⟩, ?_⟩
  · rw [(List.mem_replicate.1 hx).2]
    decide
  · have : (List.replicate (size / 64) 0).getD (q / 64) 0 = 0 := by
      rw [List.getD, List.getElem?_replicate]
      split <;> rfl
    rw [this]
    simp [freshLog]
  · simpa [zeroRow] using hp

def NewPost (size : Nat) (w : World) (e : Ending) (w' : World) : Prop :=
  Below w.heap.size w w' ∧ ((IsPow size ∧ ∃ g p, e = .returned (.tuple #[.pointer (some ⟨g, 0, none⟩), .nilIface]) ∧ w.heap.size ≤ g ∧ w.heap.size ≤ p ∧ LogAt w' g p (freshLog size)) ∨
    (¬ IsPow size ∧ ∃ t s, e = .returned (.tuple #[.pointer none, .iface t (.string s)])))

theorem pow_parts {size : Nat} (h : IsPow size) (h0 : 64 ≤ size) : size ≤ 32768 ∧ size % 64 = 0 := by
  obtain ⟨i, hi, rfl⟩ := h
  have : i = 0 ∨ i = 1 ∨ i = 2 ∨ i = 3 ∨ i = 4 ∨ i = 5 ∨ i = 6 ∨ i = 7 ∨ i = 8 ∨ i = 9 ∨ i = 10 ∨ i = 11 ∨ i = 12 ∨ i = 13 ∨ i = 14 ∨ i = 15 := by omega
  rcases this with rfl | rfl | rfl | rfl | rfl | rfl | rfl | rfl | rfl | rfl | rfl | rfl | rfl | rfl | rfl | rfl <;> simp at h0 ⊢

set_option maxHeartbeats 800000 in
theorem newLog_any (size : Nat) (w : World) (h0 : IsPow size → 64 ≤ size) (h1 : size ≤ 65535) : Calls Tryd.prog 37 #[.int .u16 size] w (NewPost size w) := by
  obtain ⟨i0, hi0, hz0, hz1, hz2⟩ := info_parts info_u64
  have hmk := fun W => make_row (P := Tryd.prog) (t := 95) (e := 81) Tryd.underlying95 hi0 hz0 hz1 hz2 .u16 .u16 ((size : Int) / 64) (size / 64) (by omega) (by omega) (by omega) W
  go_enter Tryd.func37, Tryd.ntmps37
  go_wp2_with fail
  refine (isPower_any size w).mono ?_
  rintro e w' ⟨rfl, ⟨hp, rfl⟩ | ⟨hp, s, rfl⟩⟩
  · have HP := Lib.hid hp
    clear hp
    go_wp2_with fail
    go_ret2
    obtain ⟨q1, q2⟩ := pow_parts HP.out (h0 HP.out)
    refine ⟨((Below.refl _ _).alloc (Nat.le_refl _) _).alloc (by simp) _, .inl ⟨HP.out, w.heap.size + 1, w.heap.size, rfl, by omega, by omega, ?_⟩⟩
    refine fresh_at (h0 HP.out) q1 q2 ?_ ?_
    · have := Blk.new (w.alloc (.cells (zeroRow .u64 (size / 64)) 81)) 97 (logCells w.heap.size (freshLog size))
      simpa [logCells, freshLog] using this
    · exact (Blk.new w 81 _).alloc _
  · have HP := Lib.hid hp
    clear hp
    go_wp2_with fail
    go_ret2
    exact ⟨Below.refl _ _, .inr ⟨HP.out, _, _, rfl⟩⟩

set_option maxHeartbeats 800000 in
theorem zznew_any (size : Nat) (w : World) (h0 : IsPow size → 64 ≤ size) (h1 : size ≤ 65535) : Calls Tryd.prog 33 #[.int .u16 size] w (NewPost size w) := by
  go_enter Tryd.func33, Tryd.ntmps33
  go_wp2_with fail
  refine (newLog_any size w h0 h1).mono ?_
  rintro e w' ⟨hb, ⟨hp, g, p, rfl, hg, hpp, hL⟩ | ⟨hp, t, s, rfl⟩⟩
  · have H := Lib.hid hb
    have HL := Lib.hid hL
    clear hb hL
    go_wp2_with fail
    go_ret2
    exact ⟨H.out, .inl ⟨hp, g, p, rfl, hg, hpp, HL.out⟩⟩
  · have H := Lib.hid hb
    clear hb
    go_wp2_with fail
    go_ret2
    exact ⟨H.out, .inr ⟨hp, _, _, rfl⟩⟩

open Go.RowKit

/-- The numbers behind the last one in a row, so many of them, that the log has not. -/
def missL (L : Log) (D : Nat) : List Nat := ((List.range D).map fun e => (L.last + 1 + e) % 65536).filter fun q => !L.has q
theorem missL_succ (L : Log) (d : Nat) : missL L (d + 1) = missL L d ++ (if L.has ((L.last + 1 + d) % 65536) then [] else [(L.last + 1 + d) % 65536]) := by
  simp [missL, List.range_succ]
  cases h : L.has ((L.last + 1 + d) % 65536) <;> simp [h]
theorem missL_len (L : Log) (d : Nat) : (missL L d).length ≤ d := by
  have := List.length_filter_le (fun q => !L.has q) ((List.range d).map fun e => (L.last + 1 + e) % 65536)
  simpa [missL] using this
def M16 : Nat := 65536
def MRow (wr : World) (b : Nat) (l : List Nat) : Prop := ∃ cs : Array Value, Blk wr b 32 cs ∧ cs.size = M16 ∧ cs.toList.take l.length = l.map fun q : Nat => Value.int .u16 (q : Int)

theorem mrow_push {wr : World} {b : Nat} {l : List Nat} (h : MRow wr b l) (hl : l.length < M16) (q : Nat) : MRow (wr.setCell ⟨b, l.length, none⟩ (.int .u16 (q : Int))) b (l ++ [q]) := by
  obtain ⟨cs, hb, hs, ht⟩ := h
  refine ⟨_, hb.put _ _, by simpa using hs, ?_⟩
  have hlc : l.length < cs.toList.length := by simpa [hs] using hl
  rw [Array.toList_setIfInBounds]
  apply List.ext_getElem
  · simp; omega
  · intro i h1 h2
    simp at h1 h2
    rw [List.getElem_take, List.getElem_set]
    by_cases hi : l.length = i
    · subst hi
      simp
    · rw [if_neg hi]
      have hil : i < l.length := by omega
      have h3 : (cs.toList.take l.length)[i]? = (l.map fun q : Nat => Value.int .u16 (q : Int))[i]? := by rw [ht]
      rw [List.getElem?_take, if_pos hil, List.getElem?_eq_getElem (by omega), List.getElem?_map, List.getElem?_eq_getElem hil] at h3
      simp at h3
      rw [List.getElem_map, List.getElem_append_left hil]
      simpa using h3

theorem mrow_reads {wr : World} {b : Nat} {l : List Nat} (h : MRow wr b l) : Reads wr wr.heap.size 1 (some ⟨b, 0, none⟩) l.length (l.map fun q : Nat => Value.int .u16 (q : Int)) := by
  obtain ⟨cs, hb, hs, ht⟩ := h
  rw [← ht]
  refine ⟨?_, fun _ => ⟨_, rfl, hb.lt, fun j u hu => ?_⟩⟩
  · rw [ht]; simp
  · rw [List.getElem?_take] at hu
    split at hu
    · have hadd : (⟨b, 0, none⟩ : Addr).add j = ⟨b, j, none⟩ := by unfold Addr.add; split <;> simp_all
      rw [hadd, hb.cell]
      simpa using hu
    · cases hu

def MissPost (L : Log) (b skip : Nat) (w : World) (e : Ending) (w' : World) : Prop :=
  Touch (· = b) w w' ∧
  ((32768 ≤ (L.top + (65536 - skip) + (65536 - L.last)) % 65536 ∧ e = .returned (.slice none 0 0)) ∨
   ((L.top + (65536 - skip) + (65536 - L.last)) % 65536 < 32768 ∧ e = .returned (.slice (some ⟨b, 0, none⟩) (missL L ((L.top + (65536 - skip) + (65536 - L.last)) % 65536)).length M16) ∧ MRow w' b (missL L ((L.top + (65536 - skip) + (65536 - L.last)) % 65536))))

set_option maxHeartbeats 800000 in
theorem missing_any (g p b : Nat) (L : Log) (skip : Nat) (w : World) (hL : LogAt w g p L) (hs : skip ≤ 65535) (hbp : b ≠ p) (hbg : b ≠ g) (hm : MRow w b []) :
    Calls Tryd.prog 35 #[.pointer (some ⟨g, 0, none⟩), .int .u16 skip, .slice (some ⟨b, 0, none⟩) M16 M16] w (MissPost L b skip w) := by
  obtain ⟨k1, k2, k3, k4, k5⟩ := hL.1
  obtain ⟨c1, c2, c3, c4, f2, f3, f4⟩ := hL.got
  have e1 := u16_sub L.top skip hs
  obtain ⟨U, hU, hU2⟩ : ∃ U, (L.top + (65536 - skip)) % 65536 = U ∧ U ≤ 65535 := ⟨_, rfl, by omega⟩
  rw [hU] at e1
  have e2 := u16_sub U L.last k5
  obtain ⟨D, I, hD, hI, hI0⟩ : ∃ (D : Nat) (I : Int), (U + (65536 - L.last)) % 65536 = D ∧ (D : Int) = I ∧ 0 ≤ I := ⟨_, _, rfl, rfl, by omega⟩
  rw [hD, hI] at e2
  have hDD : (L.top + (65536 - skip) + (65536 - L.last)) % 65536 = D := by omega
  unfold MissPost
  rw [hDD]
  have e3 := u16_succ L.last
  obtain ⟨l1, hl1, hl2⟩ : ∃ l1, (L.last + 1) % 65536 = l1 ∧ l1 ≤ 65535 := ⟨_, rfl, by omega⟩
  rw [hl1] at e3
  have e4 := u16_succ U
  obtain ⟨u1, hu1, hu2⟩ : ∃ u1, (U + 1) % 65536 = u1 ∧ u1 ≤ 65535 := ⟨_, rfl, by omega⟩
  rw [hu1] at e4
  have HL := Lib.hid hL
  have HU := Lib.hid hU
  have HD := Lib.hid hD
  have HI := Lib.hid hI
  have HL1 := Lib.hid hl1
  have HU1 := Lib.hid hu1
  have HM := Lib.hid hm
  clear hL hU hD hI hl1 hu1 hm hDD k3
  by_cases h1 : I < 32768
  · go_enter Tryd.func35, Tryd.ntmps35
    go_wp2_with fail
    go_loopw [8, 9] (fun v8 v9 wr => ∃ i d c : Nat, v9 = .int .u16 i ∧ v8 = .int .i64 c ∧ i ≤ 65535 ∧ c ≤ d ∧ Hid (d ≤ D) ∧ Hid (i = (L.last + 1 + d) % 65536 ∧ c = (missL L d).length ∧ MRow wr b (missL L d) ∧ Touch (· = b) w wr)) (fun _ v9 _ => ((u1 : Int) + 65536 - intOf v9).toNat % 65536)
    case atStart => exact ⟨l1, 0, 0, rfl, rfl, hl2, by omega, Nat.zero_le _, by rw [← HL1.out]; exact ⟨rfl, rfl, HM.out, Touch.refl _ _⟩⟩
    case round =>
      obtain ⟨i, d, c, rfl, rfl, hi, hcd, hdD, hr⟩ := hrel
      have hd' := hdD.out
      have hD3 : D ≤ 32767 := by have := HI.out; omega
      have hdd : d ≤ 32767 := by omega
      have HDD := Lib.hid hD3
      clear hd' hD3
      by_cases he : i = u1
      · obtain rfl := he
        have hdEq : d = D := by
          have h2 := HD.out
          have h3 := HU1.out
          have h4 := hr.out.1
          have h5 := hdD.out
          have h6 := HDD.out
          omega
        obtain ⟨cs, hcs, hcs2, hcs3⟩ := hr.out.2.2.1
        have hcm : c ≤ 32767 := by omega
        have HE := Lib.hid hdEq
        clear hdEq hcs hcs2 hcs3
        have hM : c ≤ M16 := Nat.le_trans hcm (by decide)
        go_wp2_with fail
        go_ret
        obtain ⟨q1, q2, q3, q4⟩ := hr.out
        rw [HE.out] at q2 q3
        have h6 := HDD.out
        exact ⟨q4, .inr ⟨by omega, by rw [← q2]; rfl, q3⟩⟩
      · have hne : (i != u1) = true := by simpa using he
        have hlt : d < D := by
          have h2 := HD.out
          have h3 := HU1.out
          have h4 := hr.out.1
          have h5 := hdD.out
          have h6 := HDD.out
          omega
        have HLT := Lib.hid hlt
        have HN := Lib.hid he
        have hne2 : b ≠ g ∧ b ≠ p := ⟨hbg, hbp⟩
        have HLw := Lib.hid (HL.out.touch hr.out.2.2.2 (Ne.symm hbg) (Ne.symm hbp))
        have hnext : (i + 1) % 65536 = (L.last + 1 + (d + 1)) % 65536 := by have := hr.out.1; omega
        have HNX := Lib.hid hnext
        have hmeas : ((u1 : Int) + 65536 - ((((i + 1) % 65536 : Nat)) : Int)).toNat % 65536 < ((u1 : Int) + 65536 - (i : Int)).toNat % 65536 := by omega
        have HME := Lib.hid hmeas
        clear hlt he hne2 hnext hmeas c1 c2 c3 c4 f2 f3 f4
        cases hh : L.has i with
        | true =>
          go_wp2_with (go_at_call 39; refine (getReceived_any g p L i _ HLw.out hi).mono ?_; rintro e w' ⟨rfl, rfl⟩)
          obtain ⟨q1, q2, q3, q4⟩ := hr.out
          have hq : missL L (d + 1) = missL L d := by rw [missL_succ, ← q1, if_pos hh, List.append_nil]
          refine ⟨⟨(i + 1) % 65536, d + 1, c, by rw [u16_succ], rfl, by omega, by omega, HLT.out, HNX.out, by rw [hq]; exact q2, by rw [hq]; exact q3, q4⟩, ?_⟩
          rw [u16_succ]
          exact HME.out
        | false =>
          obtain ⟨cs, hcs, hcs2, hcs3⟩ := hr.out.2.2.1
          have cc : ∃ u, wr.cell? ⟨b, c, none⟩ = some u := by
            have h9 : c < cs.size := by rw [hcs2]; exact Nat.lt_of_le_of_lt (Nat.le_trans hcd hdd) (by decide)
            exact ⟨cs[c], by rw [hcs.cell, Array.getElem?_eq_getElem h9]⟩
          obtain ⟨u, hu⟩ := cc
          have hf := hcs.free c
          have hM : c < M16 := Nat.lt_of_le_of_lt (Nat.le_trans hcd hdd) (by decide)
          clear hcs hcs2 hcs3
          go_wp2_with (go_at_call 39; refine (getReceived_any g p L i _ HLw.out hi).mono ?_; rintro e w' ⟨rfl, rfl⟩)
          obtain ⟨q1, q2, q3, q4⟩ := hr.out
          have hq : missL L (d + 1) = missL L d ++ [i] := by rw [missL_succ, ← q1, if_neg (by simp [hh])]
          refine ⟨⟨(i + 1) % 65536, d + 1, c + 1, by rw [u16_succ], by go_num, by omega, by omega, HLT.out, HNX.out, by rw [hq, List.length_append, ← q2]; rfl, ?_, ?_⟩, ?_⟩
          · rw [hq]
            have := mrow_push q3 (by rw [← q2]; exact hM) i
            rwa [← q2] at this
          · exact q4.setCell (p := ⟨b, c, none⟩) (fun _ => rfl) _
          · rw [u16_succ]
            exact HME.out
  · go_enter Tryd.func35, Tryd.ntmps35
    go_wp2_with fail
    go_ret
    refine ⟨Touch.refl _ _, .inl ⟨?_, rfl⟩⟩
    have := HI.out
    omega

theorem touch_none {S : Nat → Prop} {w w' : World} (h : Touch S w w') (hs : ∀ i, i < w.heap.size → ¬ S i) : Touch Nowhere w w' := h.mono fun i hi h => hs i hi h

def ZMissPost (L : Log) (skip : Nat) (w : World) (e : Ending) (w' : World) : Prop :=
  Touch Nowhere w w' ∧
  ((32768 ≤ (L.top + (65536 - skip) + (65536 - L.last)) % 65536 ∧ e = .returned (.slice none 0 0)) ∨
   ((L.top + (65536 - skip) + (65536 - L.last)) % 65536 < 32768 ∧ ∃ b, w.heap.size ≤ b ∧ e = .returned (.slice (some ⟨b, 0, none⟩) (missL L ((L.top + (65536 - skip) + (65536 - L.last)) % 65536)).length M16) ∧ MRow w' b (missL L ((L.top + (65536 - skip) + (65536 - L.last)) % 65536))))

set_option maxHeartbeats 800000 in
theorem zzmissing_any (g p : Nat) (L : Log) (skip : Nat) (w : World) (hL : LogAt w g p L) (hs : skip ≤ 65535) :
    Calls Tryd.prog 26 #[.pointer (some ⟨g, 0, none⟩), .int .u16 skip] w (ZMissPost L skip w) := by
  obtain ⟨i0, hi0, hz0, hz1, hz2⟩ := info_parts info_u16
  have hmk := fun W => make_row (P := Tryd.prog) (t := 22) (e := 32) Tryd.underlying22 hi0 hz0 hz1 hz2 .i64 .i64 65536 M16 rfl (by decide) (by decide) W
  have hg := hL.2.1.lt
  obtain ⟨ws, _, hpb⟩ := hL.2.2
  have hp := hpb.lt
  have HL := Lib.hid hL
  clear hL hpb
  go_enter Tryd.func26, Tryd.ntmps26
  go_wp2_with fail
  refine (missing_any g p w.heap.size L skip _ (HL.out.alloc _) hs (by omega) (by omega) ⟨_, Blk.new w 32 _, by simp [zeroRow], by simp⟩).mono ?_
  rintro e w' ⟨ht, h⟩
  have ht2 : Touch Nowhere w w' := touch_none (((Touch.refl (· = w.heap.size) w).alloc _).trans ht fun _ _ h => h) (by rintro i hi rfl; omega)
  have HT := Lib.hid ht2
  clear ht ht2
  rcases h with ⟨h1, rfl⟩ | ⟨h1, rfl, h2⟩
  · have H1 := Lib.hid h1
    clear h1
    go_wp2_with fail
    go_ret
    exact ⟨HT.out, .inl ⟨H1.out, rfl⟩⟩
  · have H1 := Lib.hid h1
    have H2 := Lib.hid h2
    clear h1 h2
    go_wp2_with fail
    go_ret
    exact ⟨HT.out, .inr ⟨H1.out, w.heap.size, Nat.le_refl _, rfl, H2.out⟩⟩

set_option maxHeartbeats 800000 in
theorem zzadd_any (g p : Nat) (L : Log) (s : Nat) (w : World) (hL : LogAt w g p L) (hs : s ≤ 65535) :
    Calls Tryd.prog 34 #[.pointer (some ⟨g, 0, none⟩), .int .u16 s] w (AddPost g p L s w) := by
  have hc : Calls Tryd.prog 38 #[.pointer (some ⟨g, 0, none⟩), .int .u16 s] w (AddPost g p L s w) := by
    cases hst : L.started with
    | false => exact add_first g p L s w hL hs hst
    | true =>
      rcases Nat.eq_zero_or_pos ((s + (65536 - L.top)) % 65536) with h0 | h0
      · exact add_same g p L s w hL hst h0
      · rcases Nat.lt_or_ge ((s + (65536 - L.top)) % 65536) 32768 with h1 | h1
        · exact add_up g p L s w hL hs hst h0 h1
        · exact add_down g p L s w hL hs hst h1
  have HC := Lib.hid hc
  clear hc hL
  go_enter Tryd.func34, Tryd.ntmps34
  go_wp2_with fail
  refine HC.out.mono ?_
  rintro e w' ⟨rfl, h⟩
  have H := Lib.hid h
  clear h
  go_wp2_with fail
  go_end0
  exact ⟨rfl, H.out⟩

open Go.RowKit

def U16s (ns : List Nat) : List Value := ns.map fun q : Nat => Value.int .u16 (q : Int)
theorem u16s_at {w : World} {B n k : Nat} {A : Option Addr} {ns : List Nat} (h : Reads w B 1 A n (U16s ns)) (hn : ∀ q ∈ ns, q ≤ 65535) (hk : k < n) :
    ∃ ad s, A = some ad ∧ ad.block < B ∧ ns[k]? = some s ∧ s ≤ 65535 ∧ w.cell? (ad.add k) = some (.int .u16 (s : Int)) := by
  obtain ⟨ad, u, e, hb, hu, hc⟩ := h.at1 hk
  have hl : ns.length = n := by simpa [U16s] using h.1
  rw [U16s, List.getElem?_map, List.getElem?_eq_getElem (by omega)] at hu
  simp at hu
  refine ⟨ad, ns[k], e, hb, List.getElem?_eq_getElem (by omega), hn _ (List.getElem_mem _), ?_⟩
  rw [hc, ← hu]

/-- A log behind numbers that came one by one. -/
def Adds : Log → List Nat → Log → Prop
  | L, [], L' => L' = L
  | L, s :: r, L' => ∃ M, AddRel L s M ∧ Adds M r L'
theorem adds_snoc {s : Nat} {M N : Log} : ∀ {l : List Nat} {L : Log}, Adds L l M → AddRel M s N → Adds L (l ++ [s]) N
  | [], _, h, h2 => by
    obtain rfl : M = _ := h
    exact ⟨N, h2, rfl⟩
  | _ :: _, _, ⟨K, hk, h⟩, h2 => ⟨K, hk, adds_snoc h h2⟩

def LoggedPost (size : Nat) (ns : List Nat) (w : World) (e : Ending) (w' : World) : Prop :=
  Below w.heap.size w w' ∧ ((IsPow size ∧ ∃ g p L, e = .returned (.tuple #[.pointer (some ⟨g, 0, none⟩), .bool true]) ∧ w.heap.size ≤ g ∧ w.heap.size ≤ p ∧ LogAt w' g p L ∧ Adds (freshLog size) ns L) ∨
    (¬ IsPow size ∧ e = .returned (.tuple #[.pointer none, .bool false])))

def LgInv (g p size : Nat) (ns : List Nat) (w1 : World) (k : Nat) (wr : World) : Prop :=
  ∃ L, Adds (freshLog size) (ns.take k) L ∧ LogAt wr g p L ∧ Touch (LS g p) w1 wr

set_option maxRecDepth 100000 in
set_option maxHeartbeats 800000 in
theorem logged_any (size n c : Nat) (A : Option Addr) (ns : List Nat) (w : World) (h0 : IsPow size → 64 ≤ size) (h1 : size ≤ 65535)
    (hr : Reads w w.heap.size 1 A n (U16s ns)) (hn : n ≤ 9223372036854775807) (hns : ∀ q ∈ ns, q ≤ 65535) :
    Calls Tryd.prog 25 #[.int .i64 size, .slice A n c] w (LoggedPost size ns w) := by
  have hlen : ns.length = n := by simpa [U16s] using hr.1
  have HR := Lib.hid hr
  have HNS := Lib.hid hns
  have HLEN := Lib.hid hlen
  clear hr hns hlen
  go_enter Tryd.func25, Tryd.ntmps25
  go_wp2_with fail
  refine (zznew_any size w h0 h1).mono ?_
  rintro e w1 ⟨hb, ⟨hp, g, p, rfl, hg, hpp, hL⟩ | ⟨hp, t, s, rfl⟩⟩
  · have HB := Lib.hid hb
    have HP := Lib.hid hp
    have HL := Lib.hid hL
    clear hb hp hL
    go_wp2_with fail
    go_loopw [25] (fun v wr => ∃ k : Nat, v = .int .i64 k ∧ k ≤ n ∧ Hid (LgInv g p size ns w1 k wr)) (fun v _ => n - (intOf v).toNat)
    case atStart => exact ⟨0, rfl, by omega, ⟨_, rfl, HL.out, Touch.refl _ _⟩⟩
    case round =>
      obtain ⟨k, rfl, hk, hinv⟩ := hrel
      obtain ⟨L, hadds, hL, ht⟩ := hinv.out
      have HA := Lib.hid hadds
      have HLw := Lib.hid hL
      have HT := Lib.hid ht
      have HBw := Lib.hid (HB.out.trans (ht.below (B := w.heap.size) HB.out.size (by rintro i hi (rfl | rfl) <;> omega)))
      clear hinv hadds hL ht
      by_cases hlt : k < n
      · obtain ⟨ad, s, rfl, hab, hsk, hs, hc⟩ := u16s_at (HR.out.below HBw.out) HNS.out hlt
        have HSK := Lib.hid hsk
        clear hsk
        go_wp2_with fail
        refine (zzadd_any g p L s wr HLw.out hs).mono ?_
        rintro e w2 ⟨rfl, L', hadd, hL', ht'⟩
        have HADD := Lib.hid hadd
        have HL' := Lib.hid hL'
        have HT' := Lib.hid ht'
        clear hadd hL' ht'
        go_wp2_with fail
        refine ⟨⟨k + 1, by go_num, by omega, L', ?_, HL'.out, HT.out.trans HT'.out fun _ _ h => h⟩, by simp [intOf]; omega⟩
        rw [List.take_add_one, HSK.out]
        exact adds_snoc HA.out HADD.out
      · obtain rfl : k = n := by omega
        go_wp2_with fail
        go_ret2
        refine ⟨HBw.out, .inl ⟨HP.out, g, p, L, rfl, hg, hpp, HLw.out, ?_⟩⟩
        have h := HA.out
        rwa [List.take_of_length_le (by rw [HLEN.out]; omega)] at h
  · have HB := Lib.hid hb
    have HP := Lib.hid hp
    clear hb hp
    go_wp2_with fail
    go_ret2
    exact ⟨HB.out, .inr ⟨HP.out, rfl⟩⟩
end Go.Proofs.YtlkmmkphpiamcaaDoor
