import Derived.Test.YtlkmmkphpiamcaaDoorF
import Derived.StillTailTactics
import Derived.LaidEqlPtr
namespace Go.Proofs.YtlkmmkphpiamcaaDoor
open Go.RowKit

def BAddPost (B g p : Nat) (R : RB) (k : Pkt) (w : World) (e : Ending) (w' : World) : Prop := e = .returned (.tuple #[]) ∧ BufAt B w' g p (R.add k) ∧ Below B w w'

theorem below_at {B : Nat} {w w' : World} (h : Below B w w') {q : Nat} (hq : B ≤ q) (i : Nat) (v : Value) : Below B w (w'.setCell ⟨q, i, none⟩ v) := h.setCell (p := ⟨q, i, none⟩) hq v

set_option maxRecDepth 1000000 in
set_option maxHeartbeats 800000 in
theorem badd_first (B g p : Nat) (R : RB) (k : Pkt) (w : World) (hR : BufAt B w g p R) (hst : R.started = false) (hp : PktAt w k) (hB : B ≤ k.blk) (hnil : ∀ j, j < R.size → R.slots j = none) :
    Calls Tryd.prog 19 #[.pointer (some ⟨g, 0, none⟩), .pointer (some ⟨k.blk, 0, none⟩)] w (BAddPost B g p R k w) := by
  obtain ⟨c0, c1, c2, c3, f2, f3⟩ := hR.got
  rw [hst] at c3
  obtain ⟨hk1, hk2, fac, hd, pl, hk3, hk4⟩ := hp
  have ck : w.cell? ⟨k.blk, 5, none⟩ = some (.int .u16 k.seq) := hk3.cell 5
  have hz0 : 64 ≤ R.size := hR.s0
  have hz1 : R.size ≤ 32768 := hR.s1
  have hjlt : k.seq % R.size < R.size := Nat.mod_lt _ (by omega)
  obtain ⟨cj, fj⟩ := hR.place hjlt
  rw [hnil _ hjlt] at cj
  have hfin := ((buf_store hR hjlt (some k) (keeps_refl _ _ _) (fun k' hk' => by
    injection hk' with hk'
    subst hk'
    exact ⟨⟨hk1, hk2, fac, hd, pl, hk3, hk4⟩, hB, fun i l hi hl => by rw [hnil i hi] at hl; cases hl⟩)).setTop k.seq hk1).start
  have HF := Lib.hid hfin
  have HST := Lib.hid hst
  have hBg := hR.hg
  have hBp := hR.hp
  obtain ⟨r, hr, hr'⟩ : ∃ r : Nat, ((k.seq : Int) % (R.size : Int)) = (r : Int) ∧ k.seq % R.size = r := ⟨k.seq % R.size, by omega, rfl⟩
  rw [hr'] at hjlt cj fj HF
  have hri : (r : Int) < (R.size : Int) := by omega
  have hgp : g ≠ p := by
    obtain ⟨cs, hr, _⟩ := hR.row
    exact hR.head.unlike hr (by decide)
  have hpg : p ≠ g := hgp.symm
  have HR := Lib.hid hr'
  clear hR hnil hfin hk3 hk4 hst hr' hz1
  go_enter Tryd.func19, Tryd.ntmps19
  go_wp2_with fail
  go_region
  all_goals go_wp2_with fail
  refine bodyPost_ret (results_none rfl _ _ _) rfl ?_
  refine ⟨rfl, ?_, ?_⟩
  · rw [RB.add, if_pos HST.out, HR.out]
    exact HF.out.drewN (n := 1)
  · exact below_at (below_at (below_at (Below.refl B w).drew hBp r _) hBg 2 _) hBg 3 _

set_option maxRecDepth 1000000 in
set_option maxHeartbeats 800000 in
theorem badd_same (B g p : Nat) (R : RB) (k : Pkt) (w : World) (hR : BufAt B w g p R) (hst : R.started = true) (hp : PktAt w k) (hD0 : (k.seq + (65536 - R.top)) % 65536 = 0) :
    Calls Tryd.prog 19 #[.pointer (some ⟨g, 0, none⟩), .pointer (some ⟨k.blk, 0, none⟩)] w (BAddPost B g p R k w) := by
  obtain ⟨c0, c1, c2, c3, f2, f3⟩ := hR.got
  rw [hst] at c3
  obtain ⟨hk1, hk2, fac, hd, pl, hk3, hk4⟩ := hp
  have ck : w.cell? ⟨k.blk, 5, none⟩ = some (.int .u16 k.seq) := hk3.cell 5
  have hd' := u16_sub k.seq R.top hR.t1
  rw [hD0] at hd'
  have HR := Lib.hid hR
  have HST := Lib.hid hst
  have HD := Lib.hid hD0
  clear hR hst hD0 hk3 hk4
  go_enter Tryd.func19, Tryd.ntmps19
  go_wp2_with fail
  refine bodyPost_ret (results_none rfl _ _ _) rfl ?_
  refine ⟨rfl, ?_, Below.refl _ _⟩
  rw [RB.add, if_neg (by simp [HST.out]), if_pos HD.out]
  exact HR.out

set_option maxRecDepth 1000000 in
set_option maxHeartbeats 1600000 in
theorem badd_down (B g p : Nat) (R : RB) (k : Pkt) (w : World) (hR : BufAt B w g p R) (hst : R.started = true) (hp : PktAt w k) (hB : B ≤ k.blk) (hne : ∀ i l, i < R.size → R.slots i = some l → l.blk ≠ k.blk)
    (hD0 : 32768 ≤ (k.seq + (65536 - R.top)) % 65536) :
    Calls Tryd.prog 19 #[.pointer (some ⟨g, 0, none⟩), .pointer (some ⟨k.blk, 0, none⟩)] w (BAddPost B g p R k w) := by
  obtain ⟨c0, c1, c2, c3, f2, f3⟩ := hR.got
  rw [hst] at c3
  have hpk := hp
  obtain ⟨hk1, hk2, fac, hd, pl, hk3, hk4⟩ := hp
  have ck : w.cell? ⟨k.blk, 5, none⟩ = some (.int .u16 k.seq) := hk3.cell 5
  have hd' := u16_sub k.seq R.top hR.t1
  obtain ⟨D, I, hDD, hI⟩ : ∃ (D : Nat) (I : Int), (k.seq + (65536 - R.top)) % 65536 = D ∧ (D : Int) = I := ⟨_, _, rfl, rfl⟩
  rw [hDD, hI] at hd'
  rw [hDD] at hD0
  have hI0 : (I == 0) = false := by simp; omega
  have hI1 : 32768 ≤ I := by omega
  have hz0 : 64 ≤ R.size := hR.s0
  have hjlt : k.seq % R.size < R.size := Nat.mod_lt _ (by omega)
  obtain ⟨cj, fj⟩ := hR.place hjlt
  have hBg := hR.hg
  have hBp := hR.hp
  have hgp : g ≠ p := by
    obtain ⟨cs, hr, _⟩ := hR.row
    exact hR.head.unlike hr (by decide)
  have hpg : p ≠ g := hgp.symm
  have hadd : R.add k = R.put (k.seq % R.size) (some k) := by
    rw [RB.add, if_neg (by simp [hst]), hDD, if_neg (by omega), if_neg (by omega)]
  have HADD := Lib.hid hadd
  obtain ⟨r, hr, hr'⟩ : ∃ r : Nat, ((k.seq : Int) % (R.size : Int)) = (r : Int) ∧ k.seq % R.size = r := ⟨k.seq % R.size, by omega, rfl⟩
  have hR2 := hR
  rw [hr'] at hjlt cj fj HADD
  have hri : (r : Int) < (R.size : Int) := by omega
  have HR := Lib.hid hR
  have HPK := Lib.hid hpk
  have HNE := Lib.hid hne
  have HRR := Lib.hid hr'
  cases hsl : R.slots r with
  | none =>
    rw [hsl] at cj
    simp only [slotVal] at cj
    have hfin := buf_store hR2 hjlt (some k) (keeps_refl _ _ _) (fun k' hk' => by
      injection hk' with hk'
      subst hk'
      exact ⟨hpk, hB, hne⟩)
    have HF := Lib.hid hfin
    clear hR hR2 hst hpk hne hk3 hk4 hDD hI hadd hr' hfin hD0 hsl
    go_enter Tryd.func19, Tryd.ntmps19
    go_wp2_with fail
    go_end0
    refine ⟨rfl, ?_, below_at (Below.refl B w) hBp r _⟩
    rw [HADD.out]
    exact HF.out
  | some k2 =>
    rw [hsl] at cj
    simp only [slotVal] at cj
    obtain ⟨hpk2, hB2⟩ := hR2.pkts r k2 hjlt hsl
    have hpk2' := hpk2
    obtain ⟨_, _, fac2, hd2, pl2, hq3, hq4⟩ := hpk2
    have hnk : k2.blk ≠ k.blk := hne r k2 hjlt hsl
    have hfin : ∀ w1, Touch (· = k2.blk) w w1 → BufAt B (w1.setCell ⟨p, r, none⟩ (.pointer (some ⟨k.blk, 0, none⟩))) g p (R.put r (some k)) := fun w1 ht =>
      buf_store hR2 hjlt (some k) (keeps_touch hsl hpk2' ht) (fun k' hk' => by
        injection hk' with hk'
        subst hk'
        refine ⟨hpk.touch ht (fun e => hnk e.symm) (fun pl cs hc e => ?_), hB, hne⟩
        exact hc.unlike hq3 (by decide) e)
    have hrest : ∀ w1, Touch (· = k2.blk) w w1 → w1.cell? ⟨g, 0, none⟩ = some (.slice (some ⟨p, 0, none⟩) R.size R.size) ∧ w1.cell? ⟨p, r, none⟩ = some (.pointer (some ⟨k2.blk, 0, none⟩)) ∧ w1.frozen? ⟨p, r, none⟩ = false := by
      intro w1 ht
      obtain ⟨cs, hrw, hs, hcs⟩ := hR2.row
      have h1 := hR2.head.touch ht (fun e => hR2.head.unlike hq3 (by decide) e)
      have h2 := hrw.touch ht (fun e => hrw.unlike hq3 (by decide) e)
      refine ⟨h1.cell 0, ?_, h2.free r⟩
      rw [h2.cell, hcs r hjlt, hsl]
      rfl
    have HREST := Lib.hid hrest
    have HF := Lib.hid hfin
    have HQ := Lib.hid hq3
    clear hR hR2 hst hpk hne hk3 hk4 hDD hI hadd hr' hfin hD0 hsl hq3 hq4 hrest hpk2'
    go_enter Tryd.func19, Tryd.ntmps19
    go_wp2_with fail
    refine (release_last k2.blk pl2 k2.seq fac2 hd2 w HQ.out).mono ?_
    rintro e w1 ⟨rfl, ht⟩
    obtain ⟨d0, dj, df⟩ := HREST.out w1 ht
    have HT := Lib.hid ht
    clear ht
    go_wp2_with fail
    go_end0
    refine ⟨rfl, ?_, below_at (HT.out.below (B := B) ?_ ?_) hBp r _⟩
    · rw [HADD.out]
      exact HF.out w1 HT.out
    · have := HQ.out.lt
      omega
    · intro i hi e
      omega

/-- Behind the release of what lay in a place: what the store there needs, and what it leaves. -/
theorem buf_released {B g p r : Nat} {R : RB} {k2 : Pkt} {w w1 : World} (hR : BufAt B w g p R) (hr : r < R.size) (hsl : R.slots r = some k2) (ht : Touch (· = k2.blk) w w1) :
    w1.cell? ⟨g, 0, none⟩ = some (.slice (some ⟨p, 0, none⟩) R.size R.size) ∧ w1.cell? ⟨p, r, none⟩ = some (.pointer (some ⟨k2.blk, 0, none⟩)) ∧ w1.frozen? ⟨p, r, none⟩ = false ∧ Below B w w1 := by
  obtain ⟨hpk2, hB2⟩ := hR.pkts r k2 hr hsl
  obtain ⟨_, _, fac2, hd2, pl2, hq3, hq4⟩ := hpk2
  obtain ⟨cs, hrw, hs, hcs⟩ := hR.row
  have h1 := hR.head.touch ht (fun e => hR.head.unlike hq3 (by decide) e)
  have h2 := hrw.touch ht (fun e => hrw.unlike hq3 (by decide) e)
  refine ⟨h1.cell 0, ?_, h2.free r, ht.below (by have := hq3.lt; omega) (fun i hi (e : i = k2.blk) => by omega)⟩
  rw [h2.cell, hcs r hr, hsl]
  rfl

theorem pkt_far {w : World} {k : Pkt} {g p i : Nat} {R : RB} {B : Nat} (h : PktAt w k) (hR : BufAt B w g p R) (v : Value) : PktAt (w.setCell ⟨p, i, none⟩ v) k := by
  obtain ⟨q1, q2, fac, hd, pl, q3, q4⟩ := h
  obtain ⟨cs, hr, _⟩ := hR.row
  exact ⟨q1, q2, fac, hd, pl, q3.far (p := ⟨p, i, none⟩) (q3.unlike hr (by decide)) _, q4.far (p := ⟨p, i, none⟩) (q4.unlike hr (by decide)) _⟩

def UpInv (B g p : Nat) (R : RB) (k : Pkt) (w : World) (i d : Nat) (wr : World) : Prop :=
  i = (R.top + 1 + d) % 65536 ∧ BufAt B wr g p (R.clears R.top d) ∧ Below B w wr ∧ PktAt wr k

set_option maxRecDepth 1000000 in
set_option maxHeartbeats 1600000 in
theorem badd_up (B g p : Nat) (R : RB) (k : Pkt) (w : World) (hR : BufAt B w g p R) (hst : R.started = true) (hp : PktAt w k) (hB : B ≤ k.blk) (hne : ∀ i l, i < R.size → R.slots i = some l → l.blk ≠ k.blk)
    (hDp : 0 < (k.seq + (65536 - R.top)) % 65536) (hD0 : (k.seq + (65536 - R.top)) % 65536 < 32768) :
    Calls Tryd.prog 19 #[.pointer (some ⟨g, 0, none⟩), .pointer (some ⟨k.blk, 0, none⟩)] w (BAddPost B g p R k w) := by
  obtain ⟨c0, c1, c2, c3, f2, f3⟩ := hR.got
  rw [hst] at c3
  have hpk := hp
  obtain ⟨hk1, hk2, fac, hd, pl, hk3, hk4⟩ := hp
  have ck : w.cell? ⟨k.blk, 5, none⟩ = some (.int .u16 k.seq) := hk3.cell 5
  have ht1 := hR.t1
  have hd' := u16_sub k.seq R.top ht1
  obtain ⟨D, I, hDD, hI⟩ : ∃ (D : Nat) (I : Int), (k.seq + (65536 - R.top)) % 65536 = D ∧ (D : Int) = I := ⟨_, _, rfl, rfl⟩
  rw [hDD, hI] at hd'
  rw [hDD] at hD0 hDp
  have hI0 : (I == 0) = false := by simp; omega
  have hI1 : I < 32768 := by omega
  have hI2 : 0 ≤ I := by omega
  have hz0 : 64 ≤ R.size := hR.s0
  have hBg := hR.hg
  have hBp := hR.hp
  obtain ⟨i1, hi1, hi1'⟩ : ∃ i1, (R.top + 1) % 65536 = i1 ∧ i1 ≤ 65535 := ⟨_, rfl, by omega⟩
  have ht := u16_succ R.top
  rw [hi1] at ht
  have hadd : R.add k = RB.put { R.clears R.top (D - 1) with top := k.seq } (k.seq % R.size) (some k) := by
    rw [RB.add, if_neg (by simp [hst]), hDD, if_neg (by omega), if_pos (by omega)]
  have HADD := Lib.hid hadd
  have HR := Lib.hid hR
  have HPK := Lib.hid hpk
  have HNE := Lib.hid hne
  have HDD := Lib.hid hDD
  have HI1 := Lib.hid hi1
  have HD0 := Lib.hid hD0
  have HST := Lib.hid hst
  clear hR hpk hne hDD hi1 hadd hk3 hk4 hI hst hD0
  go_enter Tryd.func19, Tryd.ntmps19
  go_wp2_with fail
  go_loopw [6] (fun v wr => ∃ i d : Nat, v = .int .u16 i ∧ i ≤ 65535 ∧ d + 1 ≤ D ∧ Hid (UpInv B g p R k w i d wr)) (fun v _ => ((k.seq : Int) + 65536 - intOf v).toNat % 65536)
  case atStart => exact ⟨i1, 0, rfl, hi1', by omega, by rw [← HI1.out]; exact ⟨rfl, HR.out, Below.refl _ _, HPK.out⟩⟩
  case round =>
    obtain ⟨i, d, rfl, hi, hd3, hinv⟩ := hrel
    obtain ⟨e1, hRw, hbw, hpw⟩ := hinv.out
    obtain ⟨w1s, w2s, w3s⟩ := clears_same R R.top d
    have hneW : ∀ i l, i < (R.clears R.top d).size → (R.clears R.top d).slots i = some l → l.blk ≠ k.blk := fun a l ha hl => HNE.out a l (by omega) (clears_sub R R.top d a l hl)
    obtain ⟨Rw, hRww⟩ : ∃ Rw, R.clears R.top d = Rw := ⟨_, rfl⟩
    rw [hRww] at hRw hneW w1s w2s w3s
    obtain ⟨q0, q1, q2, q3, qf2, qf3⟩ := hRw.got
    rw [w1s] at q0 q1
    rw [w2s] at q2
    rw [w3s, HST.out] at q3
    clear c0 c1 c2 c3 f2 f3 ck
    by_cases he : i = k.seq
    · subst he
      have hdD : D - 1 = d := by
        have h1 := HDD.out
        have := HD0.out
        omega
      have hneq : ((k.seq : Nat) != k.seq) = false := by simp
      have hjlt : k.seq % R.size < Rw.size := by rw [w1s]; exact Nat.mod_lt _ (by omega)
      obtain ⟨cj, fj⟩ := hRw.place hjlt
      obtain ⟨r, hr, hr'⟩ : ∃ r : Nat, ((k.seq : Int) % (R.size : Int)) = (r : Int) ∧ k.seq % R.size = r := ⟨k.seq % R.size, by omega, rfl⟩
      have HFA : R.add k = RB.put { Rw with top := k.seq } r (some k) := by rw [HADD.out, hdD, hRww, hr']
      rw [hr'] at hjlt cj fj
      have hri : (r : Int) < (R.size : Int) := by omega
      have hgp : g ≠ p := by
        obtain ⟨cs, hr, _⟩ := hRw.row
        exact hRw.head.unlike hr (by decide)
      have hpg : p ≠ g := hgp.symm
      have hRT := hRw.setTop k.seq hk1
      have HRT := Lib.hid hRT
      have HPW := Lib.hid hpw
      have HBW := Lib.hid hbw
      have HNW := Lib.hid hneW
      have HA := Lib.hid HFA
      have HRW := Lib.hid hRw
      have hpkT : PktAt (wr.setCell ⟨g, 2, none⟩ (.int .u16 (k.seq : Int))) k := by
        obtain ⟨q1, q2, fac, hd, pl, q3, q4⟩ := hpw
        exact ⟨q1, q2, fac, hd, pl, q3.far (p := ⟨g, 2, none⟩) (q3.unlike hRw.head (by decide)) _, q4.far (p := ⟨g, 2, none⟩) (q4.unlike hRw.head (by decide)) _⟩
      have HPT := Lib.hid hpkT
      cases hsl : Rw.slots r with
      | none =>
        rw [hsl] at cj
        simp only [slotVal] at cj
        have hfin := buf_store hRT hjlt (some k) (keeps_refl _ _ _) (fun k' hk' => by
          injection hk' with hk'
          subst hk'
          exact ⟨HPT.out, hB, HNW.out⟩)
        have HF := Lib.hid hfin
        clear hneW hRww hRw hbw hpw hinv e1 w1s w2s w3s hr' hsl HFA hRT hfin hpkT hdD
        go_wp2_with fail
        go_end0
        refine ⟨rfl, ?_, below_at (below_at HBW.out hBg 2 _) hBp r _⟩
        rw [HA.out]
        exact HF.out
      | some k2 =>
        rw [hsl] at cj
        simp only [slotVal] at cj
        have hpk2 := (hRT.pkts r k2 hjlt hsl).1
        have HPK2 := Lib.hid hpk2
        obtain ⟨_, _, fac2, hd2, pl2, hq3, hq4⟩ := hpk2
        have hnk := hneW r k2 hjlt hsl
        have HQ := Lib.hid hq3
        have HSL := Lib.hid hsl
        have HJ := Lib.hid hjlt
        have W1 := Lib.hid w1s
        clear hneW hRww hRw hbw hpw hinv e1 w1s w2s w3s hr' hsl HFA hRT hpkT hdD hq3 hq4
        go_wp2_with fail
        refine (release_last k2.blk pl2 k2.seq fac2 hd2 _ HQ.out).mono ?_
        rintro e w1 ⟨rfl, ht⟩
        obtain ⟨d0, dj, df, hb1⟩ := buf_released HRT.out HJ.out HSL.out ht
        have d0 : w1.cell? ⟨g, 0, none⟩ = some (.slice (some ⟨p, 0, none⟩) R.size R.size) := by rw [← W1.out]; exact d0
        have HF := Lib.hid (buf_store HRT.out HJ.out (some k) (keeps_touch HSL.out HPK2.out ht) (fun k' hk' => by
          injection hk' with hk'
          subst hk'
          refine ⟨HPT.out.touch ht (fun e => hnk e.symm) (fun pl cs hc e => hc.unlike HQ.out (by decide) e), hB, HNW.out⟩))
        have HB1 := Lib.hid hb1
        clear ht hb1
        go_wp2_with fail
        go_end0
        refine ⟨rfl, ?_, below_at ((below_at HBW.out hBg 2 _).trans HB1.out) hBp r _⟩
        rw [HA.out]
        exact HF.out
    · have hne : (i != k.seq) = true := by simpa using he
      have hjlt : i % R.size < Rw.size := by rw [w1s]; exact Nat.mod_lt _ (by omega)
      obtain ⟨cj, fj⟩ := hRw.place hjlt
      obtain ⟨r, hr, hr'⟩ : ∃ r : Nat, ((i : Int) % (R.size : Int)) = (r : Int) ∧ i % R.size = r := ⟨i % R.size, by omega, rfl⟩
      rw [hr'] at hjlt cj fj
      have hri : (r : Int) < (R.size : Int) := by omega
      have hnext : ∀ w2, BufAt B w2 g p (Rw.put r none) → Below B w w2 → PktAt w2 k → UpInv B g p R k w ((i + 1) % 65536) (d + 1) w2 := by
        intro w2 h1 h2 h3
        refine ⟨by omega, ?_, h2, h3⟩
        have : R.clears R.top (d + 1) = Rw.put r none := by rw [RB.clears, hRww, ← e1, hr']
        rw [this]
        exact h1
      have hd4 : d + 1 + 1 ≤ D := by
        have h2 := HDD.out
        have := HD0.out
        omega
      have hmeas : ((k.seq : Int) + 65536 - ((((i + 1) % 65536 : Nat)) : Int)).toNat % 65536 < ((k.seq : Int) + 65536 - (i : Int)).toNat % 65536 := by omega
      have HNX := Lib.hid hnext
      have HME := Lib.hid hmeas
      have HRW := Lib.hid hRw
      have HBW := Lib.hid hbw
      have HPW := Lib.hid hpw
      cases hsl : Rw.slots r with
      | none =>
        rw [hsl] at cj
        simp only [slotVal] at cj
        have HF := Lib.hid (buf_store hRw hjlt none (keeps_refl _ _ _) (fun k' hk' => by cases hk'))
        clear he hneW hRww hRw hbw hpw hinv e1 w1s w2s w3s hr' hnext hmeas hsl
        go_wp2_with fail
        refine ⟨⟨(i + 1) % 65536, d + 1, by rw [u16_succ], by omega, hd4, HNX.out _ HF.out (below_at HBW.out hBp r _) (pkt_far HPW.out HRW.out _)⟩, ?_⟩
        rw [u16_succ]
        exact HME.out
      | some k2 =>
        rw [hsl] at cj
        simp only [slotVal] at cj
        have hpk2 := (hRw.pkts r k2 hjlt hsl).1
        obtain ⟨_, _, fac2, hd2, pl2, hq3, hq4⟩ := hpk2
        have hnk := hneW r k2 hjlt hsl
        have HQ := Lib.hid hq3
        have HSL := Lib.hid hsl
        have hjs := hjlt
        have HJ := Lib.hid hjs
        have W1 := Lib.hid w1s
        clear he hneW hRww hRw hbw hpw hinv e1 w1s w2s w3s hr' hnext hmeas hsl hq3 hq4 hjs
        go_wp2_with fail
        refine (release_last k2.blk pl2 k2.seq fac2 hd2 wr HQ.out).mono ?_
        rintro e w1 ⟨rfl, ht⟩
        obtain ⟨d0, dj, df, hb1⟩ := buf_released HRW.out HJ.out HSL.out ht
        rw [W1.out] at d0
        have HF := Lib.hid (buf_store HRW.out HJ.out none (keeps_touch HSL.out (HRW.out.pkts r k2 HJ.out HSL.out).1 ht) (fun k' hk' => by cases hk'))
        have hpk1 : PktAt w1 k := HPW.out.touch ht (fun e => hnk e.symm) (fun pl cs hc e => hc.unlike HQ.out (by decide) e)
        have HPK1 := Lib.hid hpk1
        have hrow : ∃ cs, Blk w1 p 51 cs := by
          obtain ⟨cs, hrw, _⟩ := HRW.out.row
          exact ⟨cs, hrw.touch ht (fun e => hrw.unlike HQ.out (by decide) e)⟩
        have HROW := Lib.hid hrow
        have HB1 := Lib.hid hb1
        clear hpk1 ht hb1 hrow
        go_wp2_with fail
        refine ⟨⟨(i + 1) % 65536, d + 1, by rw [u16_succ], by omega, hd4, HNX.out _ HF.out (below_at (HBW.out.trans HB1.out) hBp r _) ?_⟩, ?_⟩
        · obtain ⟨q1, q2, fac, hd, pl, q3, q4⟩ := HPK1.out
          obtain ⟨cs, hr⟩ := HROW.out
          exact ⟨q1, q2, fac, hd, pl, q3.far (p := ⟨p, r, none⟩) (q3.unlike hr (by decide)) _, q4.far (p := ⟨p, r, none⟩) (q4.unlike hr (by decide)) _⟩
        · rw [u16_succ]
          exact HME.out
end Go.Proofs.YtlkmmkphpiamcaaDoor
