/-
  add of the receive log. Condition: the log lies in its two blocks; the number is of 16 bits. By an AI agent.
-/
import Derived.Test.YtlkmmkphpiamcaaG
namespace Go.Proofs.Ytlkmmkphpiamcaa
open Go.RowKit

/-- The numbers behind 't' wiped out, so many. -/
def wipes (L : Log) (t : Nat) : Nat → Log
  | 0 => L
  | d + 1 => (wipes L t d).wipe ((t + 1 + d) % 65536)
theorem wipes_same (L : Log) (t d : Nat) : (wipes L t d).size = L.size ∧ (wipes L t d).top = L.top ∧ (wipes L t d).started = L.started ∧ (wipes L t d).last = L.last := by
  induction d with
  | zero => exact ⟨rfl, rfl, rfl, rfl⟩
  | succ d ih => exact ih

/-- What add makes of a log. -/
def AddRel (L : Log) (s : Nat) (L' : Log) : Prop :=
  if L.started = false then L' = { L.mark s with top := s, started := true, last := s }
  else if (s + (65536 - L.top)) % 65536 = 0 then L' = L
  else if (s + (65536 - L.top)) % 65536 < 32768 then
    if (L.last + 1) % 65536 = s then L' = Log.mark { wipes L L.top ((s + (65536 - L.top)) % 65536 - 1) with top := s, last := s } s
    else if L.size < (s + (65536 - L.last)) % 65536 then
      ∃ n, FixRel { wipes L L.top ((s + (65536 - L.top)) % 65536 - 1) with top := s, last := (s + (65536 - L.size)) % 65536 } n ∧
        L' = Log.mark { wipes L L.top ((s + (65536 - L.top)) % 65536 - 1) with top := s, last := n } s
    else L' = Log.mark { wipes L L.top ((s + (65536 - L.top)) % 65536 - 1) with top := s } s
  else if (L.last + 1) % 65536 = s then ∃ n, FixRel { L with last := s } n ∧ L' = Log.mark { L with last := n } s
  else L' = L.mark s

structure LogCells (w : World) (g : Nat) (L : Log) : Prop where
  c1 : w.cell? ⟨g, 1, none⟩ = some (.int .u16 L.size)
  c2 : w.cell? ⟨g, 2, none⟩ = some (.int .u16 L.top)
  c3 : w.cell? ⟨g, 3, none⟩ = some (.bool L.started)
  c4 : w.cell? ⟨g, 4, none⟩ = some (.int .u16 L.last)
  f2 : w.frozen? ⟨g, 2, none⟩ = false
  f3 : w.frozen? ⟨g, 3, none⟩ = false
  f4 : w.frozen? ⟨g, 4, none⟩ = false
theorem LogAt.got {w : World} {g p : Nat} {L : Log} (h : LogAt w g p L) : LogCells w g L := by
  have hb := h.2.1
  exact ⟨by simpa [logCells] using hb.cell 1, by simpa [logCells] using hb.cell 2, by simpa [logCells] using hb.cell 3, by simpa [logCells] using hb.cell 4, hb.free 2, hb.free 3, hb.free 4⟩

theorem LogAt.turn {w : World} {g p : Nat} {L : Log} (h : LogAt w g p L) (i : Nat) (v : Value) (L' : Log) (hok : L'.ok) (hs : L'.size = L.size) (hbits : L'.bits = L.bits)
    (hc : (logCells p L).setIfInBounds i v = logCells p L') : LogAt (w.setCell ⟨g, i, none⟩ v) g p L' := by
  obtain ⟨_, hb, ws, ⟨q1, q2, q3⟩, hp⟩ := h
  have hne : p ≠ g := (hb.unlike hp (by decide)).symm
  refine ⟨hok, ?_, ws, ⟨by rw [hs]; exact q1, q2, fun q hq => by rw [hbits]; exact q3 q (by omega)⟩, hp.far hne _⟩
  have := hb.put i v
  rwa [hc] at this
theorem LogAt.setTop {w : World} {g p : Nat} {L : Log} (h : LogAt w g p L) (s : Nat) (hs : s ≤ 65535) : LogAt (w.setCell ⟨g, 2, none⟩ (.int .u16 (s : Int))) g p { L with top := s } := by
  obtain ⟨k1, k2, k3, k4, k5⟩ := h.1
  exact h.turn 2 _ _ ⟨k1, k2, k3, hs, k5⟩ rfl rfl (by simp [logCells])
theorem LogAt.setLast {w : World} {g p : Nat} {L : Log} (h : LogAt w g p L) (s : Nat) (hs : s ≤ 65535) : LogAt (w.setCell ⟨g, 4, none⟩ (.int .u16 (s : Int))) g p { L with last := s } := by
  obtain ⟨k1, k2, k3, k4, k5⟩ := h.1
  exact h.turn 4 _ _ ⟨k1, k2, k3, k4, hs⟩ rfl rfl (by simp [logCells])
theorem LogAt.start {w : World} {g p : Nat} {L : Log} (h : LogAt w g p L) : LogAt (w.setCell ⟨g, 3, none⟩ (.bool true)) g p { L with started := true } := by
  obtain ⟨k1, k2, k3, k4, k5⟩ := h.1
  exact h.turn 3 _ _ ⟨k1, k2, k3, k4, k5⟩ rfl rfl (by simp [logCells])
theorem touch_own {w w' : World} {g p : Nat} (h : Touch (LS g p) w w') (i : Nat) (v : Value) : Touch (LS g p) w (w'.setCell ⟨g, i, none⟩ v) := h.setCell (p := ⟨g, i, none⟩) (fun _ => .inl rfl) _

def AddPost (g p : Nat) (L : Log) (s : Nat) (w : World) (e : Ending) (w' : World) : Prop :=
  e = .returned (.tuple #[]) ∧ ∃ L', AddRel L s L' ∧ LogAt w' g p L' ∧ Touch (LS g p) w w'

set_option maxHeartbeats 800000 in
theorem add_first (g p : Nat) (L : Log) (s : Nat) (w : World) (hL : LogAt w g p L) (hs : s ≤ 65535) (hst : L.started = false) :
    Calls Try.prog 88 #[.pointer (some ⟨g, 0, none⟩), .int .u16 s] w (AddPost g p L s w) := by
  obtain ⟨c1, c2, c3, c4, f2, f3, f4⟩ := hL.got
  rw [hst] at c3
  have HL := Lib.hid hL
  have HST := Lib.hid hst
  clear hL hst
  go_enter Try.func88, Try.ntmps88
  go_wp2_with fail
  refine (setReceived_any g p L s w HL.out hs).mono ?_
  rintro e w1 ⟨rfl, hL1, ht1⟩
  clear c1 c2 c3 c4 f2 f3 f4
  obtain ⟨c1, c2, c3, c4, f2, f3, f4⟩ := hL1.got
  have HL1 := Lib.hid hL1
  have HT1 := Lib.hid ht1
  clear hL1 ht1
  go_wp2_with fail
  refine bodyPost_ret (results_none rfl _ _ _) rfl ?_
  refine ⟨rfl, _, ?_, ((HL1.out.setTop s hs).start).setLast s hs, touch_own (touch_own (touch_own HT1.out _ _) _ _) _ _⟩
  rw [AddRel, if_pos HST.out]

set_option maxHeartbeats 800000 in
theorem add_same (g p : Nat) (L : Log) (s : Nat) (w : World) (hL : LogAt w g p L) (hst : L.started = true) (hd : (s + (65536 - L.top)) % 65536 = 0) :
    Calls Try.prog 88 #[.pointer (some ⟨g, 0, none⟩), .int .u16 s] w (AddPost g p L s w) := by
  obtain ⟨c1, c2, c3, c4, f2, f3, f4⟩ := hL.got
  have hd' := u16_sub s L.top hL.1.2.2.2.1
  rw [hd] at hd'
  rw [hst] at c3
  have HL := Lib.hid hL
  have HST := Lib.hid hst
  have HD := Lib.hid hd
  clear hL hst hd
  go_enter Try.func88, Try.ntmps88
  go_wp2_with fail
  refine bodyPost_ret (results_none rfl _ _ _) rfl ?_
  refine ⟨rfl, L, ?_, HL.out, Touch.refl _ _⟩
  rw [AddRel, if_neg (by simp [HST.out]), if_pos HD.out]

set_option maxHeartbeats 800000 in
theorem add_down (g p : Nat) (L : Log) (s : Nat) (w : World) (hL : LogAt w g p L) (hs : s ≤ 65535) (hst : L.started = true) (hd : 32768 ≤ (s + (65536 - L.top)) % 65536) :
    Calls Try.prog 88 #[.pointer (some ⟨g, 0, none⟩), .int .u16 s] w (AddPost g p L s w) := by
  obtain ⟨c1, c2, c3, c4, f2, f3, f4⟩ := hL.got
  have hd' := u16_sub s L.top hL.1.2.2.2.1
  obtain ⟨D, hD⟩ : ∃ D, (s + (65536 - L.top)) % 65536 = D := ⟨_, rfl⟩
  have hDlt : D < 65536 := by omega
  rw [hD] at hd hd'
  rw [hst] at c3
  have hl := u16_succ L.last
  obtain ⟨l1, hl1⟩ : ∃ l1, (L.last + 1) % 65536 = l1 := ⟨_, rfl⟩
  rw [hl1] at hl
  have HL := Lib.hid hL
  have HST := Lib.hid hst
  have HD := Lib.hid hD
  have HL1 := Lib.hid hl1
  clear hL hst hD hl1
  have hD0 : (D == 0) = false := by simp; omega
  have hD1 : ¬ D < 32768 := by omega
  have hD2 : ¬ (D : Int) < 32768 := by omega
  by_cases hn : l1 = s
  · obtain rfl := hn
    go_enter Try.func88, Try.ntmps88
    go_wp2_with fail
    have HL2 := Lib.hid (HL.out.setLast l1 hs)
    refine (fix_any g p _ _ HL2.out).mono ?_
    rintro e w1 ⟨rfl, n, hn, hfix, hL3, ht3⟩
    have HL3 := Lib.hid hL3
    have HT3 := Lib.hid ht3
    have HF := Lib.hid hfix
    clear hL3 ht3 hfix
    go_wp2_with fail
    refine (setReceived_any g p _ l1 _ HL3.out hs).mono ?_
    rintro e w2 ⟨rfl, hL4, ht4⟩
    have HL4 := Lib.hid hL4
    have HT4 := Lib.hid ht4
    clear hL4 ht4
    go_wp2_with fail
    go_end0
    refine ⟨rfl, _, ?_, HL4.out, ((touch_own (Touch.refl _ w) 4 _).trans HT3.out fun _ _ h => h).trans HT4.out fun _ _ h => h⟩
    rw [AddRel, if_neg (by simp [HST.out]), if_neg (by rw [HD.out]; omega), if_neg (by rw [HD.out]; omega), if_pos HL1.out]
    exact ⟨n, HF.out, rfl⟩
  · have hne : (l1 == s) = false := by simpa using hn
    have hne2 : ((l1 : Int) == (s : Int)) = false := by simp; omega
    have HN := Lib.hid hn
    clear hn
    go_enter Try.func88, Try.ntmps88
    go_wp2_with fail
    refine (setReceived_any g p _ s _ HL.out hs).mono ?_
    rintro e w2 ⟨rfl, hL4, ht4⟩
    have HL4 := Lib.hid hL4
    have HT4 := Lib.hid ht4
    clear hL4 ht4
    go_wp2_with fail
    go_end0
    refine ⟨rfl, _, ?_, HL4.out, HT4.out⟩
    rw [AddRel, if_neg (by simp [HST.out]), if_neg (by rw [HD.out]; omega), if_neg (by rw [HD.out]; omega), if_neg (by rw [HL1.out]; exact HN.out)]

set_option maxRecDepth 1000000 in
set_option maxHeartbeats 1600000 in
theorem add_up (g p : Nat) (L : Log) (s : Nat) (w : World) (hL : LogAt w g p L) (hs : s ≤ 65535) (hst : L.started = true) (hd0 : 0 < (s + (65536 - L.top)) % 65536) (hd : (s + (65536 - L.top)) % 65536 < 32768) :
    Calls Try.prog 88 #[.pointer (some ⟨g, 0, none⟩), .int .u16 s] w (AddPost g p L s w) := by
  obtain ⟨c1, c2, c3, c4, f2, f3, f4⟩ := hL.got
  obtain ⟨k1, k2, k3, k4, k5⟩ := hL.1
  have hd' := u16_sub s L.top k4
  obtain ⟨D, hD⟩ : ∃ D, (s + (65536 - L.top)) % 65536 = D := ⟨_, rfl⟩
  rw [hD] at hd hd' hd0
  obtain ⟨I, hI⟩ : ∃ I : Int, (D : Int) = I := ⟨_, rfl⟩
  rw [hI] at hd'
  have hD0 : (I == 0) = false := by simp; omega
  have hD2 : I < 32768 := by omega
  have hD3 : 0 ≤ I := by omega
  have HI := Lib.hid hI
  have HDD := Lib.hid hd
  rw [hst] at c3
  obtain ⟨t1, ht1, ht1'⟩ : ∃ t1, (L.top + 1) % 65536 = t1 ∧ t1 ≤ 65535 := ⟨_, rfl, by omega⟩
  have ht := u16_succ L.top
  rw [ht1] at ht
  have HL := Lib.hid hL
  have HST := Lib.hid hst
  have HD := Lib.hid hD
  have HT1 := Lib.hid ht1
  clear hL hst hD ht1 hI hd
  go_enter Try.func88, Try.ntmps88
  go_wp2_with fail

  go_loopw [5] (fun v wr => ∃ i d : Nat, v = .int .u16 i ∧ i ≤ 65535 ∧ d + 1 ≤ D ∧ Hid (i = (L.top + 1 + d) % 65536 ∧ LogAt wr g p (wipes L L.top d) ∧ Touch (LS g p) w wr)) (fun v _ => ((s : Int) + 65536 - intOf v).toNat % 65536)
  case atStart => exact ⟨t1, 0, rfl, ht1', by omega, by rw [← HT1.out]; exact ⟨rfl, HL.out, Touch.refl _ _⟩⟩
  case round =>
    obtain ⟨i, d, rfl, hi, hd3, hrel2⟩ := hrel
    have HR := hrel2
    clear hrel2
    by_cases he : i = s
    · obtain rfl := he
      have hdD : d = D - 1 := by
        have h1 := HR.out.1
        have h2 := HD.out
        have := HDD.out
        omega
      obtain ⟨e1, hLw, htw⟩ := HR.out
      rw [hdD] at hLw
      have HLW := Lib.hid hLw
      have HTW := Lib.hid htw
      obtain ⟨w1s, w2s, w3s, w4s⟩ := wipes_same L L.top (D - 1)
      obtain ⟨q1, q2, q3, q4, qf2, qf3, qf4⟩ := hLw.got
      rw [w1s] at q1
      rw [w2s] at q2
      rw [w3s, HST.out] at q3
      rw [w4s] at q4
      obtain ⟨Lw, hLww⟩ : ∃ Lw, wipes L L.top (D - 1) = Lw := ⟨_, rfl⟩
      rw [hLww] at HLW w1s w2s w3s w4s
      have hadd : ∀ L', (if (L.last + 1) % 65536 = i then L' = Log.mark { Lw with top := i, last := i } i
          else if L.size < (i + (65536 - L.last)) % 65536 then ∃ n, FixRel { Lw with top := i, last := (i + (65536 - L.size)) % 65536 } n ∧ L' = Log.mark { Lw with top := i, last := n } i
          else L' = Log.mark { Lw with top := i } i) → AddRel L i L' := by
        intro L' h
        rw [AddRel, if_neg (by simp [HST.out]), if_neg (by rw [HD.out]; omega), if_pos (by rw [HD.out]; exact HDD.out)]
        rw [HD.out, hLww]
        exact h
      have HADD := Lib.hid hadd
      have hok : (4 : Nat) = 4 := rfl
      have hl := u16_succ L.last
      obtain ⟨l1, hl1⟩ : ∃ l1, (L.last + 1) % 65536 = l1 := ⟨_, rfl⟩
      rw [hl1] at hl
      have HL1 := Lib.hid hl1
      have W4 := Lib.hid w4s
      have W1 := Lib.hid w1s
      clear hLw htw hLww w1s w2s w3s w4s hadd hok hl1 hdD c1 c2 c3 c4 f2 f3 f4 HR e1
      have HLT := Lib.hid (HLW.out.setTop i hs)
      by_cases hn : l1 = i
      · obtain rfl := hn
        go_wp2_with fail
        have HL2 := Lib.hid (HLT.out.setLast l1 hs)
        refine (setReceived_any g p _ l1 _ HL2.out hs).mono ?_
        rintro e w2 ⟨rfl, hL4, ht4⟩
        have HL4 := Lib.hid hL4
        have HT4 := Lib.hid ht4
        clear hL4 ht4
        go_wp2_with fail
        go_end0
        refine ⟨rfl, _, HADD.out _ ?_, HL4.out, (touch_own (touch_own HTW.out 2 _) 4 _).trans HT4.out fun _ _ h => h⟩
        rw [if_pos HL1.out]
      · have hne : (l1 == i) = false := by simpa using hn
        have HN := Lib.hid hn
        clear hn
        have hb' := u16_sub i L.last k5
        obtain ⟨b, hbb⟩ : ∃ b, (i + (65536 - L.last)) % 65536 = b := ⟨_, rfl⟩
        rw [hbb] at hb'
        have HB := Lib.hid hbb
        clear hbb
        by_cases hgt : L.size < b
        · have hgt' : (L.size : Int) < (b : Int) := by omega
          have hz' := u16_sub i L.size (by omega)
          obtain ⟨z, hz, hz2⟩ : ∃ z, (i + (65536 - L.size)) % 65536 = z ∧ z ≤ 65535 := ⟨_, rfl, by omega⟩
          rw [hz] at hz'
          have HZ := Lib.hid hz
          clear hz
          go_wp2_with fail
          go_quiet (fail)
          go_wp2_with fail
          have HL2 := Lib.hid ((LogAt.drewN (n := nq) HLT.out).setLast z hz2)
          refine (fix_any g p _ _ HL2.out).mono ?_
          rintro e w1 ⟨rfl, n, hn, hfix, hL3, ht3⟩
          have HL3 := Lib.hid hL3
          have HT3 := Lib.hid ht3
          have HF := Lib.hid hfix
          clear hL3 ht3 hfix
          go_wp2_with fail
          refine (setReceived_any g p _ i _ HL3.out hs).mono ?_
          rintro e w2 ⟨rfl, hL4, ht4⟩
          have HL4 := Lib.hid hL4
          have HT4 := Lib.hid ht4
          clear hL4 ht4
          go_wp2_with fail
          go_end0
          refine ⟨rfl, _, HADD.out _ ?_, HL4.out, ((touch_own ((touch_own HTW.out 2 _).drewN nq) 4 _).trans HT3.out fun _ _ h => h).trans HT4.out fun _ _ h => h⟩
          rw [if_neg (by rw [HL1.out]; exact HN.out), HB.out, if_pos hgt, HZ.out]
          exact ⟨n, HF.out, rfl⟩
        · have hgt' : ¬ (L.size : Int) < (b : Int) := by omega
          go_wp2_with fail
          go_quiet (fail)
          go_wp2_with fail
          refine (setReceived_any g p _ i _ (LogAt.drewN (n := nq) HLT.out) hs).mono ?_
          rintro e w2 ⟨rfl, hL4, ht4⟩
          have HL4 := Lib.hid hL4
          have HT4 := Lib.hid ht4
          clear hL4 ht4
          go_wp2_with fail
          go_end0
          refine ⟨rfl, _, HADD.out _ ?_, HL4.out, ((touch_own HTW.out 2 _).drewN nq).trans HT4.out fun _ _ h => h⟩
          rw [if_neg (by rw [HL1.out]; exact HN.out), HB.out, if_neg hgt]
    · have hne : (i != s) = true := by simpa using he
      have HN := Lib.hid he
      clear he c1 c2 c3 c4 f2 f3 f4
      have HLW := Lib.hid HR.out.2.1
      go_wp2_with fail
      refine (delReceived_any g p _ i _ HLW.out hi).mono ?_
      rintro e w2 ⟨rfl, hL4, ht4⟩
      have HL4 := Lib.hid hL4
      have HT4 := Lib.hid ht4
      clear hL4 ht4
      go_wp2_with fail
      refine ⟨⟨(i + 1) % 65536, d + 1, by rw [u16_succ], by omega, ?_, ?_⟩, ?_⟩
      · have h1 := HR.out.1
        have h2 := HD.out
        have h3 := HN.out
        have := HDD.out
        omega
      · have h1 := HR.out.1
        refine ⟨by omega, ?_, HR.out.2.2.trans HT4.out fun _ _ h => h⟩
        have h2 := HL4.out
        rw [h1] at h2
        exact h2
      · rw [u16_succ]
        have h3 := HN.out
        simp only [intOf]
        omega
end Go.Proofs.Ytlkmmkphpiamcaa
