/-
  missingSeqNumbers and add of the receive log. Condition: the log lies in its two blocks. By an AI agent.
-/
import Derived.Test.YtlkmmkphpiamcaaI
namespace Go.Proofs.Ytlkmmkphpiamcaa
open Go.RowKit

/-- The numbers behind the last one in a row, so many of them, that the log has not. -/
def missL (L : Log) (D : Nat) : List Nat := ((List.range D).map fun e => (L.last + 1 + e) % 65536).filter fun q => !L.has q
theorem missL_succ (L : Log) (d : Nat) : missL L (d + 1) = missL L d ++ (if L.has ((L.last + 1 + d) % 65536) then [] else [(L.last + 1 + d) % 65536]) := by
  simp [missL, List.range_succ]
  cases h : L.has ((L.last + 1 + d) % 65536) <;> simp [h]
theorem missL_len (L : Log) (d : Nat) : (missL L d).length ≤ d := by
  have := List.length_filter_le (fun q => !L.has q) ((List.range d).map fun e => (L.last + 1 + e) % 65536)
  simpa [missL] using this
def M16 : Nat := 65536
def MRow (wr : World) (b : Nat) (l : List Nat) : Prop := ∃ cs : Array Value, Blk wr b 33 cs ∧ cs.size = M16 ∧ cs.toList.take l.length = l.map fun q : Nat => Value.int .u16 (q : Int)

theorem mrow_push {wr : World} {b : Nat} {l : List Nat} (h : MRow wr b l) (hl : l.length < M16) (q : Nat) : MRow (wr.setCell ⟨b, l.length, none⟩ (.int .u16 (q : Int))) b (l ++ [q]) := by
  obtain ⟨cs, hb, hs, ht⟩ := h
  refine ⟨_, hb.put _ _, by simpa using hs, ?_⟩
  have hlc : l.length < cs.toList.length := by simpa [hs] using hl
  rw [Array.toList_setIfInBounds]
  apply List.ext_getElem
  · simp; omega
  · intro i h1 h2
    simp at h1 h2
    rw [List.getElem_take, List.getElem_set]
    by_cases hi : l.length = i
    · subst hi
      simp
    · rw [if_neg hi]
      have hil : i < l.length := by omega
      have h3 : (cs.toList.take l.length)[i]? = (l.map fun q : Nat => Value.int .u16 (q : Int))[i]? := by rw [ht]
      rw [List.getElem?_take, if_pos hil, List.getElem?_eq_getElem (by omega), List.getElem?_map, List.getElem?_eq_getElem hil] at h3
      simp at h3
      rw [List.getElem_map, List.getElem_append_left hil]
      simpa using h3

theorem mrow_reads {wr : World} {b : Nat} {l : List Nat} (h : MRow wr b l) : Reads wr wr.heap.size 1 (some ⟨b, 0, none⟩) l.length (l.map fun q : Nat => Value.int .u16 (q : Int)) := by
  obtain ⟨cs, hb, hs, ht⟩ := h
  rw [← ht]
  refine ⟨?_, fun _ => ⟨_, rfl, hb.lt, fun j u hu => ?_⟩⟩
  · rw [ht]; simp
  · rw [List.getElem?_take] at hu
    split at hu
    · have hadd : (⟨b, 0, none⟩ : Addr).add j = ⟨b, j, none⟩ := by unfold Addr.add; split <;> simp_all
      rw [hadd, hb.cell]
      simpa using hu
    · cases hu

def MissPost (L : Log) (b skip : Nat) (w : World) (e : Ending) (w' : World) : Prop :=
  Touch (· = b) w w' ∧
  ((32768 ≤ (L.top + (65536 - skip) + (65536 - L.last)) % 65536 ∧ e = .returned (.slice none 0 0)) ∨
   ((L.top + (65536 - skip) + (65536 - L.last)) % 65536 < 32768 ∧ e = .returned (.slice (some ⟨b, 0, none⟩) (missL L ((L.top + (65536 - skip) + (65536 - L.last)) % 65536)).length M16) ∧ MRow w' b (missL L ((L.top + (65536 - skip) + (65536 - L.last)) % 65536))))

set_option maxHeartbeats 800000 in
theorem missing_any (g p b : Nat) (L : Log) (skip : Nat) (w : World) (hL : LogAt w g p L) (hs : skip ≤ 65535) (hbp : b ≠ p) (hbg : b ≠ g) (hm : MRow w b []) :
    Calls Try.prog 66 #[.pointer (some ⟨g, 0, none⟩), .int .u16 skip, .slice (some ⟨b, 0, none⟩) M16 M16] w (MissPost L b skip w) := by
  obtain ⟨k1, k2, k3, k4, k5⟩ := hL.1
  obtain ⟨c1, c2, c3, c4, f2, f3, f4⟩ := hL.got
  have e1 := u16_sub L.top skip hs
  obtain ⟨U, hU, hU2⟩ : ∃ U, (L.top + (65536 - skip)) % 65536 = U ∧ U ≤ 65535 := ⟨_, rfl, by omega⟩
  rw [hU] at e1
  have e2 := u16_sub U L.last k5
  obtain ⟨D, I, hD, hI, hI0⟩ : ∃ (D : Nat) (I : Int), (U + (65536 - L.last)) % 65536 = D ∧ (D : Int) = I ∧ 0 ≤ I := ⟨_, _, rfl, rfl, by omega⟩
  rw [hD, hI] at e2
  have hDD : (L.top + (65536 - skip) + (65536 - L.last)) % 65536 = D := by omega
  unfold MissPost
  rw [hDD]
  have e3 := u16_succ L.last
  obtain ⟨l1, hl1, hl2⟩ : ∃ l1, (L.last + 1) % 65536 = l1 ∧ l1 ≤ 65535 := ⟨_, rfl, by omega⟩
  rw [hl1] at e3
  have e4 := u16_succ U
  obtain ⟨u1, hu1, hu2⟩ : ∃ u1, (U + 1) % 65536 = u1 ∧ u1 ≤ 65535 := ⟨_, rfl, by omega⟩
  rw [hu1] at e4
  have HL := Lib.hid hL
  have HU := Lib.hid hU
  have HD := Lib.hid hD
  have HI := Lib.hid hI
  have HL1 := Lib.hid hl1
  have HU1 := Lib.hid hu1
  have HM := Lib.hid hm
  clear hL hU hD hI hl1 hu1 hm hDD k3
  by_cases h1 : I < 32768
  · go_enter Try.func66, Try.ntmps66
    go_wp2_with fail
    go_loopw [8, 9] (fun v8 v9 wr => ∃ i d c : Nat, v9 = .int .u16 i ∧ v8 = .int .i64 c ∧ i ≤ 65535 ∧ c ≤ d ∧ Hid (d ≤ D) ∧ Hid (i = (L.last + 1 + d) % 65536 ∧ c = (missL L d).length ∧ MRow wr b (missL L d) ∧ Touch (· = b) w wr)) (fun _ v9 _ => ((u1 : Int) + 65536 - intOf v9).toNat % 65536)
    case atStart => exact ⟨l1, 0, 0, rfl, rfl, hl2, by omega, Nat.zero_le _, by rw [← HL1.out]; exact ⟨rfl, rfl, HM.out, Touch.refl _ _⟩⟩
    case round =>
      obtain ⟨i, d, c, rfl, rfl, hi, hcd, hdD, hr⟩ := hrel
      have hd' := hdD.out
      have hD3 : D ≤ 32767 := by have := HI.out; omega
      have hdd : d ≤ 32767 := by omega
      have HDD := Lib.hid hD3
      clear hd' hD3
      by_cases he : i = u1
      · obtain rfl := he
        have hdEq : d = D := by
          have h2 := HD.out
          have h3 := HU1.out
          have h4 := hr.out.1
          have h5 := hdD.out
          have h6 := HDD.out
          omega
        obtain ⟨cs, hcs, hcs2, hcs3⟩ := hr.out.2.2.1
        have hcm : c ≤ 32767 := by omega
        have HE := Lib.hid hdEq
        clear hdEq hcs hcs2 hcs3
        have hM : c ≤ M16 := Nat.le_trans hcm (by decide)
        go_wp2_with fail
        go_ret
        obtain ⟨q1, q2, q3, q4⟩ := hr.out
        rw [HE.out] at q2 q3
        have h6 := HDD.out
        exact ⟨q4, .inr ⟨by omega, by rw [← q2]; rfl, q3⟩⟩
      · have hne : (i != u1) = true := by simpa using he
        have hlt : d < D := by
          have h2 := HD.out
          have h3 := HU1.out
          have h4 := hr.out.1
          have h5 := hdD.out
          have h6 := HDD.out
          omega
        have HLT := Lib.hid hlt
        have HN := Lib.hid he
        have hne2 : b ≠ g ∧ b ≠ p := ⟨hbg, hbp⟩
        have HLw := Lib.hid (HL.out.touch hr.out.2.2.2 (Ne.symm hbg) (Ne.symm hbp))
        have hnext : (i + 1) % 65536 = (L.last + 1 + (d + 1)) % 65536 := by have := hr.out.1; omega
        have HNX := Lib.hid hnext
        have hmeas : ((u1 : Int) + 65536 - ((((i + 1) % 65536 : Nat)) : Int)).toNat % 65536 < ((u1 : Int) + 65536 - (i : Int)).toNat % 65536 := by omega
        have HME := Lib.hid hmeas
        clear hlt he hne2 hnext hmeas c1 c2 c3 c4 f2 f3 f4
        cases hh : L.has i with
        | true =>
          go_wp2_with (go_at_call 89; refine (getReceived_any g p L i _ HLw.out hi).mono ?_; rintro e w' ⟨rfl, rfl⟩)
          obtain ⟨q1, q2, q3, q4⟩ := hr.out
          have hq : missL L (d + 1) = missL L d := by rw [missL_succ, ← q1, if_pos hh, List.append_nil]
          refine ⟨⟨(i + 1) % 65536, d + 1, c, by rw [u16_succ], rfl, by omega, by omega, HLT.out, HNX.out, by rw [hq]; exact q2, by rw [hq]; exact q3, q4⟩, ?_⟩
          rw [u16_succ]
          exact HME.out
        | false =>
          obtain ⟨cs, hcs, hcs2, hcs3⟩ := hr.out.2.2.1
          have cc : ∃ u, wr.cell? ⟨b, c, none⟩ = some u := by
            have h9 : c < cs.size := by rw [hcs2]; exact Nat.lt_of_le_of_lt (Nat.le_trans hcd hdd) (by decide)
            exact ⟨cs[c], by rw [hcs.cell, Array.getElem?_eq_getElem h9]⟩
          obtain ⟨u, hu⟩ := cc
          have hf := hcs.free c
          have hM : c < M16 := Nat.lt_of_le_of_lt (Nat.le_trans hcd hdd) (by decide)
          clear hcs hcs2 hcs3
          go_wp2_with (go_at_call 89; refine (getReceived_any g p L i _ HLw.out hi).mono ?_; rintro e w' ⟨rfl, rfl⟩)
          obtain ⟨q1, q2, q3, q4⟩ := hr.out
          have hq : missL L (d + 1) = missL L d ++ [i] := by rw [missL_succ, ← q1, if_neg (by simp [hh])]
          refine ⟨⟨(i + 1) % 65536, d + 1, c + 1, by rw [u16_succ], by go_num, by omega, by omega, HLT.out, HNX.out, by rw [hq, List.length_append, ← q2]; rfl, ?_, ?_⟩, ?_⟩
          · rw [hq]
            have := mrow_push q3 (by rw [← q2]; exact hM) i
            rwa [← q2] at this
          · exact q4.setCell (p := ⟨b, c, none⟩) (fun _ => rfl) _
          · rw [u16_succ]
            exact HME.out
  · go_enter Try.func66, Try.ntmps66
    go_wp2_with fail
    go_ret
    refine ⟨Touch.refl _ _, .inl ⟨?_, rfl⟩⟩
    have := HI.out
    omega

theorem touch_none {S : Nat → Prop} {w w' : World} (h : Touch S w w') (hs : ∀ i, i < w.heap.size → ¬ S i) : Touch Nowhere w w' := h.mono fun i hi h => hs i hi h

def ZMissPost (L : Log) (skip : Nat) (w : World) (e : Ending) (w' : World) : Prop :=
  Touch Nowhere w w' ∧
  ((32768 ≤ (L.top + (65536 - skip) + (65536 - L.last)) % 65536 ∧ e = .returned (.slice none 0 0)) ∨
   ((L.top + (65536 - skip) + (65536 - L.last)) % 65536 < 32768 ∧ ∃ b, w.heap.size ≤ b ∧ e = .returned (.slice (some ⟨b, 0, none⟩) (missL L ((L.top + (65536 - skip) + (65536 - L.last)) % 65536)).length M16) ∧ MRow w' b (missL L ((L.top + (65536 - skip) + (65536 - L.last)) % 65536))))

set_option maxHeartbeats 800000 in
theorem zzmissing_any (g p : Nat) (L : Log) (skip : Nat) (w : World) (hL : LogAt w g p L) (hs : skip ≤ 65535) :
    Calls Try.prog 41 #[.pointer (some ⟨g, 0, none⟩), .int .u16 skip] w (ZMissPost L skip w) := by
  obtain ⟨i0, hi0, hz0, hz1, hz2⟩ := info_parts info_u16
  have hmk := fun W => make_row (P := Try.prog) (t := 22) (e := 33) Try.underlying22 hi0 hz0 hz1 hz2 .i64 .i64 65536 M16 rfl (by decide) (by decide) W
  have hg := hL.2.1.lt
  obtain ⟨ws, _, hpb⟩ := hL.2.2
  have hp := hpb.lt
  have HL := Lib.hid hL
  clear hL hpb
  go_enter Try.func41, Try.ntmps41
  go_wp2_with fail
  refine (missing_any g p w.heap.size L skip _ (HL.out.alloc _) hs (by omega) (by omega) ⟨_, Blk.new w 33 _, by simp [zeroRow], by simp⟩).mono ?_
  rintro e w' ⟨ht, h⟩
  have ht2 : Touch Nowhere w w' := touch_none (((Touch.refl (· = w.heap.size) w).alloc _).trans ht fun _ _ h => h) (by rintro i hi rfl; omega)
  have HT := Lib.hid ht2
  clear ht ht2
  rcases h with ⟨h1, rfl⟩ | ⟨h1, rfl, h2⟩
  · have H1 := Lib.hid h1
    clear h1
    go_wp2_with fail
    go_ret
    exact ⟨HT.out, .inl ⟨H1.out, rfl⟩⟩
  · have H1 := Lib.hid h1
    have H2 := Lib.hid h2
    clear h1 h2
    go_wp2_with fail
    go_ret
    exact ⟨HT.out, .inr ⟨H1.out, w.heap.size, Nat.le_refl _, rfl, H2.out⟩⟩

set_option maxHeartbeats 800000 in
theorem zzadd_any (g p : Nat) (L : Log) (s : Nat) (w : World) (hL : LogAt w g p L) (hs : s ≤ 65535) :
    Calls Try.prog 64 #[.pointer (some ⟨g, 0, none⟩), .int .u16 s] w (AddPost g p L s w) := by
  have hc : Calls Try.prog 88 #[.pointer (some ⟨g, 0, none⟩), .int .u16 s] w (AddPost g p L s w) := by
    cases hst : L.started with
    | false => exact add_first g p L s w hL hs hst
    | true =>
      rcases Nat.eq_zero_or_pos ((s + (65536 - L.top)) % 65536) with h0 | h0
      · exact add_same g p L s w hL hst h0
      · rcases Nat.lt_or_ge ((s + (65536 - L.top)) % 65536) 32768 with h1 | h1
        · exact add_up g p L s w hL hs hst h0 h1
        · exact add_down g p L s w hL hs hst h1
  have HC := Lib.hid hc
  clear hc hL
  go_enter Try.func64, Try.ntmps64
  go_wp2_with fail
  refine HC.out.mono ?_
  rintro e w' ⟨rfl, h⟩
  have H := Lib.hid h
  clear h
  go_wp2_with fail
  go_end0
  exact ⟨rfl, H.out⟩
end Go.Proofs.Ytlkmmkphpiamcaa
