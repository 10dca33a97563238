/-
  The jitter buffer: Push, Pop. Conditions: at most 100 packets. By an AI agent.
-/
import Derived.Test.YtlkmmkphpiamcaaJb
import Derived.Test.YtlkmmkphpiamcaaQd
import Derived.Test.YtlkmmkphpiamcaaQl
import Derived.Deep.RegionLaw
import Derived.Deep.DeepCutAuto
namespace Go.Proofs.Ytlkmmkphpiamcaa
open Go.RowKit

/-- What the jitter buffer's calls may turn. -/
def JT (B jb q : Nat) (w : World) : Nat → Prop := fun b => b = jb ∨ QT B q w b
theorem Touch.jt {B jb q : Nat} {a b c : World} (h : Touch (JT B jb q a) a b) (k : Touch (JT B jb q b) b c) : Touch (JT B jb q a) a c :=
  h.trans k fun i hi hb => by
    by_cases hs : JT B jb q a i
    · exact hs
    · rcases hb with rfl | rfl | ⟨hB, cs, hc⟩
      · exact .inl rfl
      · exact .inr (.inl rfl)
      · exact .inr (.inr ⟨hB, cs, (h.block i hi hs).symm.trans hc⟩)
theorem Touch.ofJb {B jb q : Nat} {a b : World} (h : Touch (· = jb) a b) : Touch (JT B jb q a) a b := h.mono fun _ _ e => .inl e
theorem Touch.ofQt {B jb q : Nat} {a b : World} (h : Touch (QT B q a) a b) : Touch (JT B jb q a) a b := h.mono fun _ _ e => .inr e
/-- The queue is not turned by what turns the buffer's own block. -/
theorem QL.jb {B q jb L : Nat} {w w' : World} {ns : List Nd} {cs : Array Value} (h : QL B w q ns L) (hb : Blk w jb 147 cs) (ht : Touch (· = jb) w w') : QL B w' q ns L :=
  h.calm ht fun b t cs' hc ht' e => by
    subst e
    rcases ht' with h1 | h1 | h1 <;> (subst h1; exact hc.unlike hb (by decide) rfl)
theorem Blk.jb {w w' : World} {b jb t : Nat} {cs cs' : Array Value} (h : Blk w b t cs) (hb : Blk w jb 147 cs') (ht : t ≠ 147) (hT : Touch (· = jb) w w') : Blk w' b t cs :=
  h.touch hT fun e => by subst e; exact h.unlike hb ht rfl
theorem map_jb {w w' : World} {jb mp : Nat} {cs : Array Value} (h : ∃ c, w.heap[mp]? = some (.map #[] c)) (hb : Blk w jb 147 cs) (hT : Touch (· = jb) w w') : ∃ c, w'.heap[mp]? = some (.map #[] c) := by
  obtain ⟨c, hc⟩ := h
  exact ⟨c, map_touch hc hT fun b e => by subst e; exact ⟨_, _, hb⟩⟩
theorem map_qt {B q : Nat} {w w' : World} {mp L : Nat} {ns : List Nd} (h : ∃ c, w.heap[mp]? = some (.map #[] c)) (hq : QL B w q ns L) (hT : Touch (QT B q w) w w') : ∃ c, w'.heap[mp]? = some (.map #[] c) := by
  obtain ⟨c, hc⟩ := h
  refine ⟨c, map_touch hc hT fun b e => ?_⟩
  rcases e with rfl | ⟨_, cs, hb⟩
  · exact ⟨_, _, hq.head⟩
  · exact ⟨_, _, hb⟩

/-- The buffer with its queue. -/
structure JQ (B : Nat) (w : World) (jb q mp : Nat) (d : JS) (ns : List Nd) : Prop where
  jb : JB w jb q mp d
  qu : QAt B w q ns
  its : ns.map itOf = d.its

def JPushPost (B jb q mp s t : Nat) (d : JS) (w : World) (e : Ending) (w' : World) : Prop :=
  e = .returned (.tuple #[]) ∧ Touch (JT B jb q w) w w' ∧ ∃ ns, JQ B w' jb q mp (jPush ⟨s, t⟩ d) ns

set_option maxRecDepth 1000000 in
set_option maxHeartbeats 3200000 in
theorem jpush_f0 (B jb q mp pk s t mn head L : Nat) (its : List It) (ns : List Nd) (w : World) (h : JQ B w jb q mp ⟨mn, head, false, its⟩ ns) (hL : ns.length = L) (hL0 : L = 0) (hl : L ≤ 99) (hpk : Blk w pk 139 (pkCells s t)) (hpB : B ≤ pk) (hB : B ≤ w.heap.size) (hs : s ≤ 65535) (ht : t ≤ 4294967295) :
    Calls Try.prog 69 #[.pointer (some ⟨jb, 0, none⟩), .pointer (some ⟨pk, 0, none⟩)] w (JPushPost B jb q mp s t ⟨mn, head, false, its⟩ w) := by
  obtain ⟨⟨⟨last, s0, s1, s2, hb⟩, hm⟩, hq, hits⟩ := h
  simp only at hb hits
  subst hL0
  have c0 : w.cell? ⟨jb, 0, none⟩ = some (.pointer (some ⟨q, 0, none⟩)) := hb.cell 0
  have c2 : w.cell? ⟨jb, 2, none⟩ = some (.int .u16 100) := hb.cell 2
  have c4 : w.cell? ⟨jb, 4, none⟩ = some (.int .u16 head) := hb.cell 4
  have c5 : w.cell? ⟨jb, 5, none⟩ = some (.bool false) := hb.cell 5
  have c10 : w.cell? ⟨jb, 10, none⟩ = some (.map (some mp)) := hb.cell 10
  have f4 := hb.free 4
  have p5 : w.cell? ⟨pk, 5, none⟩ = some (.int .u16 s) := hpk.cell 5
  have hq' : QL B w q ns 0 := by rw [← hL]; exact hq
  have hovf : ¬ (100 : Int) < ((0 : Nat) : Int) := by omega
  have hin : its = [] := by rw [← hits, List.eq_nil_of_length_eq_zero hL]; rfl
  have HHD : Hid ((if false = false ∧ its = [] then s else head) = s) := by
    show _ = _
    simp [hin]
  have HB := Lib.hid hb
  have HM := Lib.hid hm
  have HQ := Lib.hid hq'
  have HI := Lib.hid hits
  have HP := Lib.hid hpk
  have HL := Lib.hid hL
  clear hb hm hq hq' hits hpk hL hin
  obtain ⟨post, hpost⟩ : ∃ post, post = JPushPost B jb q mp s t ⟨mn, head, false, its⟩ w := ⟨_, rfl⟩
  rw [← hpost]
  have HPO := Lib.hid hpost
  clear hpost
  go_enter Try.func69, Try.ntmps69
  go_wp2_with fail
  refine (len_any B q 0 ns w HQ.out).mono ?_
  rintro e w1 ⟨rfl, rfl⟩
  go_wp2_with fail
  refine (emit_any jb mp _ (by decide) _ c10 HM.out).mono ?_
  rintro e w2 ⟨rfl, rfl⟩
  go_wp2_with fail
  go_quiet ((go_at_call 51; exact Calls.quiet_of_same (len_any B q 0 ns _ (HQ.out.drewN _))))
  go_wp2_with fail
  refine (len_any B q 0 ns _ (HQ.out.drewN _)).mono ?_
  rintro e w3 ⟨rfl, hw3⟩
  have hb3 : Blk w3 jb 147 (jC q mn last head false s0 s1 s2 mp) := by rw [hw3]; exact HB.out.drewN _
  have hm3 : ∃ c, w3.heap[mp]? = some (.map #[] c) := by rw [hw3]; exact HM.out
  have hq3 : QL B w3 q ns 0 := by rw [hw3]; exact HQ.out.drewN _
  have hp3 : Blk w3 pk 139 (pkCells s t) := by rw [hw3]; exact HP.out.drewN _
  have ht3 : Touch (JT B jb q w2) w2 w3 := by rw [hw3]; exact (Touch.refl _ _).drewN _
  have hB3 : B ≤ w3.heap.size := by rw [hw3]; simpa using hB
  clear hw3 c0 c2 c4 c5 c10 f4 p5
  have c4 : w3.cell? ⟨jb, 4, none⟩ = some (.int .u16 head) := hb3.cell 4
  have f4 := hb3.free 4
  have p5 : w3.cell? ⟨pk, 5, none⟩ = some (.int .u16 s) := hp3.cell 5
  have HB3 := Lib.hid hb3
  have HM3 := Lib.hid hm3
  have HQ3 := Lib.hid hq3
  have HP3 := Lib.hid hp3
  have HT3 := Lib.hid ht3
  clear hb3 hm3 hq3 hp3 ht3
  go_upto_region 7 with fail
  have htj : Touch (· = jb) w3 (w3.setCell ⟨jb, 4, none⟩ (.int .u16 s)) := (Touch.refl (· = jb) w3).setCell (p := ⟨jb, 4, none⟩) (fun _ => rfl) _
  have hb4 : Blk (w3.setCell ⟨jb, 4, none⟩ (.int .u16 s)) jb 147 (jC q mn last s false s0 s1 s2 mp) := by simpa [jC] using HB3.out.put 4 (.int .u16 (s : Nat))
  have hm4 := map_jb HM3.out HB3.out htj
  have hq4 := HQ3.out.jb HB3.out htj
  have hp4 := HP3.out.jb HB3.out (by decide) htj
  have ht4 := HT3.out.jt htj.ofJb
  have hB4 : B ≤ (w3.setCell ⟨jb, 4, none⟩ (.int .u16 s)).heap.size := Nat.le_trans hB3 htj.size
  clear c4 f4 p5
  generalize w3.setCell ⟨jb, 4, none⟩ (.int .u16 s) = V at *
  have p5 : V.cell? ⟨pk, 5, none⟩ = some (.int .u16 s) := hp4.cell 5
  have HB4 := Lib.hid hb4
  have HM4 := Lib.hid hm4
  have HQ4 := Lib.hid hq4
  have HP4 := Lib.hid hp4
  have HT4 := Lib.hid ht4
  clear hb4 hm4 hq4 hp4 ht4
  go_wp2_with fail
  refine (stats_any B jb q mp mn last s s 0 false s0 s1 s2 ns V HB4.out HQ4.out).mono ?_
  rintro e w6 ⟨rfl, ht6, last6, s06, hb6⟩
  have HQ6 := Lib.hid (HQ4.out.jb HB4.out ht6)
  have HP6 := Lib.hid (HP4.out.jb HB4.out (by decide) ht6)
  have HM6 := Lib.hid (map_jb HM4.out HB4.out ht6)
  have HT6 := Lib.hid (HT4.out.jt ht6.ofJb)
  have HB6 := Lib.hid hb6
  have hB6 : B ≤ w6.heap.size := Nat.le_trans hB4 ht6.size
  have c0 : w6.cell? ⟨jb, 0, none⟩ = some (.pointer (some ⟨q, 0, none⟩)) := hb6.cell 0
  have p5 : w6.cell? ⟨pk, 5, none⟩ = some (.int .u16 s) := HP6.out.cell 5
  have HQ6A : Hid (∀ k, QAt B (w6.drewN k) q ns) := fun k => by
    have h := HQ6.out.drewN k
    rw [← HL.out] at h
    exact h
  have hlen : ns.length < 60000 := by rw [HL.out]; omega
  clear ht6 hb6
  go_wp2_with fail
  go_cut [] (fun wx => Hid (∃ ns', QAt B wx q ns' ∧ ns'.map itOf = insBy It.n ⟨s, t⟩ its ∧ Blk wx jb 147 (jC q mn last6 s false s06 s1 s2 mp) ∧ (∃ c, wx.heap[mp]? = some (.map #[] c)) ∧ Touch (JT B jb q w6) w6 wx ∧ ns'.length = 0 + 1))
  case first =>
    go_region_law (go_simp; go_at_call 44; refine (push_any B q pk s t ns _ (HQ6A.out _) hlen hB6 HP6.out hpB hs ht).mono ?_; rintro e w7 ⟨rfl, N, hN1, hN2, hN3, hput⟩; have H7 := Lib.hid (And.intro hN2 (And.intro hN3 hput)); clear hN1 hN2 hN3 hput)
    all_goals
      go_wp2_with fail
      go_meet
      obtain ⟨hN2, hN3, hqa, htq⟩ := H7.out
      have htq' : Touch (QT B q w6) w6 w7 := ⟨htq.os, htq.tape, htq.output, htq.size, htq.block⟩
      have hjq : jb ≠ q := HB6.out.unlike HQ6.out.head (by decide)
      exact ⟨_, hqa, by rw [itOf_ins, HI.out]; show insBy It.n (itOf N) _ = _; rw [show itOf N = ⟨s, t⟩ by rw [itOf, hN2, hN3]], HB6.out.qt htq' (by decide) hjq, map_qt HM6.out HQ6.out htq', htq'.ofQt, by rw [insBy_length, HL.out]⟩
  case rest =>
    obtain ⟨ns', h1, h2, h3, h4, h5, h6⟩ := hcut.out
    have HQ7 := Lib.hid (show QL B wc q ns' (0 + 1) by rw [← h6]; exact h1)
    have HI7 := Lib.hid h2
    have HB7 := Lib.hid h3
    have HM7 := Lib.hid h4
    have HT7 := Lib.hid (HT6.out.jt h5)
    have HL7 := Lib.hid h6
    clear h1 h2 h3 h4 h5 h6 hcut c0 p5
    go_wp2_with fail
    refine (state_any B jb q mp mn last6 s (0 + 1) false s06 s1 s2 ns' wc HB7.out HM7.out HQ7.out).mono ?_
    rintro e w8 ⟨rfl, ht8, hb8⟩
    have HB8 := Lib.hid hb8
    have HT8 := Lib.hid ht8
    clear ht8 hb8
    go_wp2_with fail
    go_end0
    rw [HPO.out]
    have hil : its.length = 0 := by rw [← HI.out, List.length_map, HL.out]
    refine ⟨rfl, HT7.out.jt HT8.out.ofJb, ns', ⟨⟨last6, s06, s1, s2, ?_⟩, map_jb HM7.out HB7.out HT8.out⟩, ?_, HI7.out⟩
    · have h := HB8.out
      unfold jPush
      simp only
      rw [HHD.out, hil]
      exact h
    · have h := HQ7.out.jb HB7.out HT8.out
      show QL B w8 q ns' ns'.length
      rw [HL7.out]
      exact h

set_option maxRecDepth 1000000 in
set_option maxHeartbeats 3200000 in
theorem jpush_t0 (B jb q mp pk s t mn head L : Nat) (its : List It) (ns : List Nd) (w : World) (h : JQ B w jb q mp ⟨mn, head, true, its⟩ ns) (hL : ns.length = L) (hL0 : L = 0) (hl : L ≤ 99) (hpk : Blk w pk 139 (pkCells s t)) (hpB : B ≤ pk) (hB : B ≤ w.heap.size) (hs : s ≤ 65535) (ht : t ≤ 4294967295) :
    Calls Try.prog 69 #[.pointer (some ⟨jb, 0, none⟩), .pointer (some ⟨pk, 0, none⟩)] w (JPushPost B jb q mp s t ⟨mn, head, true, its⟩ w) := by
  obtain ⟨⟨⟨last, s0, s1, s2, hb⟩, hm⟩, hq, hits⟩ := h
  simp only at hb hits
  subst hL0
  have c0 : w.cell? ⟨jb, 0, none⟩ = some (.pointer (some ⟨q, 0, none⟩)) := hb.cell 0
  have c2 : w.cell? ⟨jb, 2, none⟩ = some (.int .u16 100) := hb.cell 2
  have c4 : w.cell? ⟨jb, 4, none⟩ = some (.int .u16 head) := hb.cell 4
  have c5 : w.cell? ⟨jb, 5, none⟩ = some (.bool true) := hb.cell 5
  have c10 : w.cell? ⟨jb, 10, none⟩ = some (.map (some mp)) := hb.cell 10
  have f4 := hb.free 4
  have p5 : w.cell? ⟨pk, 5, none⟩ = some (.int .u16 s) := hpk.cell 5
  have hq' : QL B w q ns 0 := by rw [← hL]; exact hq
  have hovf : ¬ (100 : Int) < ((0 : Nat) : Int) := by omega
  have hin : its = [] := by rw [← hits, List.eq_nil_of_length_eq_zero hL]; rfl
  have HHD : Hid ((if true = false ∧ its = [] then s else head) = head) := by
    show _ = _
    simp
  have HB := Lib.hid hb
  have HM := Lib.hid hm
  have HQ := Lib.hid hq'
  have HI := Lib.hid hits
  have HP := Lib.hid hpk
  have HL := Lib.hid hL
  clear hb hm hq hq' hits hpk hL hin
  obtain ⟨post, hpost⟩ : ∃ post, post = JPushPost B jb q mp s t ⟨mn, head, true, its⟩ w := ⟨_, rfl⟩
  rw [← hpost]
  have HPO := Lib.hid hpost
  clear hpost
  go_enter Try.func69, Try.ntmps69
  go_wp2_with fail
  refine (len_any B q 0 ns w HQ.out).mono ?_
  rintro e w1 ⟨rfl, rfl⟩
  go_wp2_with fail
  refine (emit_any jb mp _ (by decide) _ c10 HM.out).mono ?_
  rintro e w2 ⟨rfl, rfl⟩
  go_wp2_with fail
  go_quiet ((go_at_call 51; exact Calls.quiet_of_same (len_any B q 0 ns _ (HQ.out.drewN _))))
  go_upto_region 7 with fail
  obtain ⟨w3, hw3⟩ : ∃ w3, w2.drewN nq = w3 := ⟨_, rfl⟩
  rw [hw3]
  have hb3 : Blk w3 jb 147 (jC q mn last head true s0 s1 s2 mp) := by rw [← hw3]; exact HB.out.drewN _
  have hm3 : ∃ c, w3.heap[mp]? = some (.map #[] c) := by rw [← hw3]; exact HM.out
  have hq3 : QL B w3 q ns 0 := by rw [← hw3]; exact HQ.out.drewN _
  have hp3 : Blk w3 pk 139 (pkCells s t) := by rw [← hw3]; exact HP.out.drewN _
  have ht3 : Touch (JT B jb q w2) w2 w3 := by rw [← hw3]; exact (Touch.refl _ _).drewN _
  have hB3 : B ≤ w3.heap.size := by rw [← hw3]; simpa using hB
  clear hw3 c0 c2 c4 c5 c10 f4 p5
  have p5 : w3.cell? ⟨pk, 5, none⟩ = some (.int .u16 s) := hp3.cell 5
  have HB4 := Lib.hid hb3
  have HM4 := Lib.hid hm3
  have HQ4 := Lib.hid hq3
  have HP4 := Lib.hid hp3
  have HT4 := Lib.hid ht3
  clear hb3 hm3 hq3 hp3 ht3
  go_wp2_with fail
  refine (stats_any B jb q mp mn last head s 0 true s0 s1 s2 ns w3 HB4.out HQ4.out).mono ?_
  rintro e w6 ⟨rfl, ht6, last6, s06, hb6⟩
  have HQ6 := Lib.hid (HQ4.out.jb HB4.out ht6)
  have HP6 := Lib.hid (HP4.out.jb HB4.out (by decide) ht6)
  have HM6 := Lib.hid (map_jb HM4.out HB4.out ht6)
  have HT6 := Lib.hid (HT4.out.jt ht6.ofJb)
  have HB6 := Lib.hid hb6
  have hB6 : B ≤ w6.heap.size := Nat.le_trans hB3 ht6.size
  have c0 : w6.cell? ⟨jb, 0, none⟩ = some (.pointer (some ⟨q, 0, none⟩)) := hb6.cell 0
  have p5 : w6.cell? ⟨pk, 5, none⟩ = some (.int .u16 s) := HP6.out.cell 5
  have HQ6A : Hid (∀ k, QAt B (w6.drewN k) q ns) := fun k => by
    have h := HQ6.out.drewN k
    rw [← HL.out] at h
    exact h
  have hlen : ns.length < 60000 := by rw [HL.out]; omega
  clear ht6 hb6
  go_wp2_with fail
  go_cut [] (fun wx => Hid (∃ ns', QAt B wx q ns' ∧ ns'.map itOf = insBy It.n ⟨s, t⟩ its ∧ Blk wx jb 147 (jC q mn last6 head true s06 s1 s2 mp) ∧ (∃ c, wx.heap[mp]? = some (.map #[] c)) ∧ Touch (JT B jb q w6) w6 wx ∧ ns'.length = 0 + 1))
  case first =>
    go_region_law (go_simp; go_at_call 44; refine (push_any B q pk s t ns _ (HQ6A.out _) hlen hB6 HP6.out hpB hs ht).mono ?_; rintro e w7 ⟨rfl, N, hN1, hN2, hN3, hput⟩; have H7 := Lib.hid (And.intro hN2 (And.intro hN3 hput)); clear hN1 hN2 hN3 hput)
    all_goals
      go_wp2_with fail
      go_meet
      obtain ⟨hN2, hN3, hqa, htq⟩ := H7.out
      have htq' : Touch (QT B q w6) w6 w7 := ⟨htq.os, htq.tape, htq.output, htq.size, htq.block⟩
      have hjq : jb ≠ q := HB6.out.unlike HQ6.out.head (by decide)
      exact ⟨_, hqa, by rw [itOf_ins, HI.out]; show insBy It.n (itOf N) _ = _; rw [show itOf N = ⟨s, t⟩ by rw [itOf, hN2, hN3]], HB6.out.qt htq' (by decide) hjq, map_qt HM6.out HQ6.out htq', htq'.ofQt, by rw [insBy_length, HL.out]⟩
  case rest =>
    obtain ⟨ns', h1, h2, h3, h4, h5, h6⟩ := hcut.out
    have HQ7 := Lib.hid (show QL B wc q ns' (0 + 1) by rw [← h6]; exact h1)
    have HI7 := Lib.hid h2
    have HB7 := Lib.hid h3
    have HM7 := Lib.hid h4
    have HT7 := Lib.hid (HT6.out.jt h5)
    have HL7 := Lib.hid h6
    clear h1 h2 h3 h4 h5 h6 hcut c0 p5
    go_wp2_with fail
    refine (state_any B jb q mp mn last6 head (0 + 1) true s06 s1 s2 ns' wc HB7.out HM7.out HQ7.out).mono ?_
    rintro e w8 ⟨rfl, ht8, hb8⟩
    have HB8 := Lib.hid hb8
    have HT8 := Lib.hid ht8
    clear ht8 hb8
    go_wp2_with fail
    go_end0
    rw [HPO.out]
    have hil : its.length = 0 := by rw [← HI.out, List.length_map, HL.out]
    refine ⟨rfl, HT7.out.jt HT8.out.ofJb, ns', ⟨⟨last6, s06, s1, s2, ?_⟩, map_jb HM7.out HB7.out HT8.out⟩, ?_, HI7.out⟩
    · have h := HB8.out
      unfold jPush
      simp only
      rw [HHD.out, hil]
      exact h
    · have h := HQ7.out.jb HB7.out HT8.out
      show QL B w8 q ns' ns'.length
      rw [HL7.out]
      exact h

set_option maxRecDepth 1000000 in
set_option maxHeartbeats 3200000 in
theorem jpush_f1 (B jb q mp pk s t mn head L : Nat) (its : List It) (ns : List Nd) (w : World) (h : JQ B w jb q mp ⟨mn, head, false, its⟩ ns) (hL : ns.length = L) (hL0 : 0 < L) (hl : L ≤ 99) (hpk : Blk w pk 139 (pkCells s t)) (hpB : B ≤ pk) (hB : B ≤ w.heap.size) (hs : s ≤ 65535) (ht : t ≤ 4294967295) :
    Calls Try.prog 69 #[.pointer (some ⟨jb, 0, none⟩), .pointer (some ⟨pk, 0, none⟩)] w (JPushPost B jb q mp s t ⟨mn, head, false, its⟩ w) := by
  obtain ⟨⟨⟨last, s0, s1, s2, hb⟩, hm⟩, hq, hits⟩ := h
  simp only at hb hits
  have c0 : w.cell? ⟨jb, 0, none⟩ = some (.pointer (some ⟨q, 0, none⟩)) := hb.cell 0
  have c2 : w.cell? ⟨jb, 2, none⟩ = some (.int .u16 100) := hb.cell 2
  have c4 : w.cell? ⟨jb, 4, none⟩ = some (.int .u16 head) := hb.cell 4
  have c5 : w.cell? ⟨jb, 5, none⟩ = some (.bool false) := hb.cell 5
  have c10 : w.cell? ⟨jb, 10, none⟩ = some (.map (some mp)) := hb.cell 10
  have f4 := hb.free 4
  have p5 : w.cell? ⟨pk, 5, none⟩ = some (.int .u16 s) := hpk.cell 5
  have hq' : QL B w q ns L := by rw [← hL]; exact hq
  have hovf : ¬ (100 : Int) < ((L : Nat) : Int) := by omega
  have hne0 : ((L : Int) == 0) = false := by simp; omega
  have hovd : decide ((100 : Int) < (L : Int)) = false := by simp; omega
  have HHD : Hid ((if false = false ∧ its = [] then s else head) = head) := by
    show _ = _
    rw [if_neg]; rintro ⟨_, e⟩; rw [e] at hits; have := congrArg List.length hits; simp at this; rw [this] at hL; simp at hL; omega
  have HB := Lib.hid hb
  have HM := Lib.hid hm
  have HQ := Lib.hid hq'
  have HI := Lib.hid hits
  have HP := Lib.hid hpk
  have HL := Lib.hid hL
  clear hb hm hq hq' hits hpk hL
  obtain ⟨post, hpost⟩ : ∃ post, post = JPushPost B jb q mp s t ⟨mn, head, false, its⟩ w := ⟨_, rfl⟩
  rw [← hpost]
  have HPO := Lib.hid hpost
  clear hpost
  go_enter Try.func69, Try.ntmps69
  go_wp2_with fail
  refine (len_any B q L ns w HQ.out).mono ?_
  rintro e w1 ⟨rfl, rfl⟩
  go_wp2_with fail
  go_quiet ((go_at_call 51; exact Calls.quiet_of_same (len_any B q L ns _ (HQ.out.drewN _))))
  go_wp2_with fail
  refine (len_any B q L ns _ (HQ.out.drewN _)).mono ?_
  rintro e w3 ⟨rfl, hw3⟩
  have hb3 : Blk w3 jb 147 (jC q mn last head false s0 s1 s2 mp) := by rw [hw3]; exact HB.out.drewN _
  have hm3 : ∃ c, w3.heap[mp]? = some (.map #[] c) := by rw [hw3]; exact HM.out
  have hq3 : QL B w3 q ns L := by rw [hw3]; exact HQ.out.drewN _
  have hp3 : Blk w3 pk 139 (pkCells s t) := by rw [hw3]; exact HP.out.drewN _
  have ht3 : Touch (JT B jb q w1) w1 w3 := by rw [hw3]; exact (Touch.refl _ _).drewN _
  have hB3 : B ≤ w3.heap.size := by rw [hw3]; simpa using hB
  clear hw3 c0 c2 c4 c5 c10 f4 p5
  have p5 : w3.cell? ⟨pk, 5, none⟩ = some (.int .u16 s) := hp3.cell 5
  have HB4 := Lib.hid hb3
  have HM4 := Lib.hid hm3
  have HQ4 := Lib.hid hq3
  have HP4 := Lib.hid hp3
  have HT4 := Lib.hid ht3
  clear hb3 hm3 hq3 hp3 ht3
  go_wp2_with fail
  refine (stats_any B jb q mp mn last head s L false s0 s1 s2 ns w3 HB4.out HQ4.out).mono ?_
  rintro e w6 ⟨rfl, ht6, last6, s06, hb6⟩
  have HQ6 := Lib.hid (HQ4.out.jb HB4.out ht6)
  have HP6 := Lib.hid (HP4.out.jb HB4.out (by decide) ht6)
  have HM6 := Lib.hid (map_jb HM4.out HB4.out ht6)
  have HT6 := Lib.hid (HT4.out.jt ht6.ofJb)
  have HB6 := Lib.hid hb6
  have hB6 : B ≤ w6.heap.size := Nat.le_trans hB3 ht6.size
  have c0 : w6.cell? ⟨jb, 0, none⟩ = some (.pointer (some ⟨q, 0, none⟩)) := hb6.cell 0
  have p5 : w6.cell? ⟨pk, 5, none⟩ = some (.int .u16 s) := HP6.out.cell 5
  have HQ6A : Hid (∀ k, QAt B (w6.drewN k) q ns) := fun k => by
    have h := HQ6.out.drewN k
    rw [← HL.out] at h
    exact h
  have hlen : ns.length < 60000 := by rw [HL.out]; omega
  clear ht6 hb6
  go_wp2_with fail
  go_cut [] (fun wx => Hid (∃ ns', QAt B wx q ns' ∧ ns'.map itOf = insBy It.n ⟨s, t⟩ its ∧ Blk wx jb 147 (jC q mn last6 head false s06 s1 s2 mp) ∧ (∃ c, wx.heap[mp]? = some (.map #[] c)) ∧ Touch (JT B jb q w6) w6 wx ∧ ns'.length = L + 1))
  case first =>
    go_region_law (go_simp; go_at_call 44; refine (push_any B q pk s t ns _ (HQ6A.out _) hlen hB6 HP6.out hpB hs ht).mono ?_; rintro e w7 ⟨rfl, N, hN1, hN2, hN3, hput⟩; have H7 := Lib.hid (And.intro hN2 (And.intro hN3 hput)); clear hN1 hN2 hN3 hput)
    all_goals
      go_wp2_with fail
      go_meet
      obtain ⟨hN2, hN3, hqa, htq⟩ := H7.out
      have htq' : Touch (QT B q w6) w6 w7 := ⟨htq.os, htq.tape, htq.output, htq.size, htq.block⟩
      have hjq : jb ≠ q := HB6.out.unlike HQ6.out.head (by decide)
      exact ⟨_, hqa, by rw [itOf_ins, HI.out]; show insBy It.n (itOf N) _ = _; rw [show itOf N = ⟨s, t⟩ by rw [itOf, hN2, hN3]], HB6.out.qt htq' (by decide) hjq, map_qt HM6.out HQ6.out htq', htq'.ofQt, by rw [insBy_length, HL.out]⟩
  case rest =>
    obtain ⟨ns', h1, h2, h3, h4, h5, h6⟩ := hcut.out
    have HQ7 := Lib.hid (show QL B wc q ns' (L + 1) by rw [← h6]; exact h1)
    have HI7 := Lib.hid h2
    have HB7 := Lib.hid h3
    have HM7 := Lib.hid h4
    have HT7 := Lib.hid (HT6.out.jt h5)
    have HL7 := Lib.hid h6
    clear h1 h2 h3 h4 h5 h6 hcut c0 p5
    go_wp2_with fail
    refine (state_any B jb q mp mn last6 head (L + 1) false s06 s1 s2 ns' wc HB7.out HM7.out HQ7.out).mono ?_
    rintro e w8 ⟨rfl, ht8, hb8⟩
    have HB8 := Lib.hid hb8
    have HT8 := Lib.hid ht8
    clear ht8 hb8
    go_wp2_with fail
    go_end0
    rw [HPO.out]
    have hil : its.length = L := by rw [← HI.out, List.length_map, HL.out]
    refine ⟨rfl, HT7.out.jt HT8.out.ofJb, ns', ⟨⟨last6, s06, s1, s2, ?_⟩, map_jb HM7.out HB7.out HT8.out⟩, ?_, HI7.out⟩
    · have h := HB8.out
      unfold jPush
      simp only
      rw [HHD.out, hil]
      exact h
    · have h := HQ7.out.jb HB7.out HT8.out
      show QL B w8 q ns' ns'.length
      rw [HL7.out]
      exact h

set_option maxRecDepth 1000000 in
set_option maxHeartbeats 3200000 in
theorem jpush_t1 (B jb q mp pk s t mn head L : Nat) (its : List It) (ns : List Nd) (w : World) (h : JQ B w jb q mp ⟨mn, head, true, its⟩ ns) (hL : ns.length = L) (hL0 : 0 < L) (hl : L ≤ 99) (hpk : Blk w pk 139 (pkCells s t)) (hpB : B ≤ pk) (hB : B ≤ w.heap.size) (hs : s ≤ 65535) (ht : t ≤ 4294967295) :
    Calls Try.prog 69 #[.pointer (some ⟨jb, 0, none⟩), .pointer (some ⟨pk, 0, none⟩)] w (JPushPost B jb q mp s t ⟨mn, head, true, its⟩ w) := by
  obtain ⟨⟨⟨last, s0, s1, s2, hb⟩, hm⟩, hq, hits⟩ := h
  simp only at hb hits
  have c0 : w.cell? ⟨jb, 0, none⟩ = some (.pointer (some ⟨q, 0, none⟩)) := hb.cell 0
  have c2 : w.cell? ⟨jb, 2, none⟩ = some (.int .u16 100) := hb.cell 2
  have c4 : w.cell? ⟨jb, 4, none⟩ = some (.int .u16 head) := hb.cell 4
  have c5 : w.cell? ⟨jb, 5, none⟩ = some (.bool true) := hb.cell 5
  have c10 : w.cell? ⟨jb, 10, none⟩ = some (.map (some mp)) := hb.cell 10
  have f4 := hb.free 4
  have p5 : w.cell? ⟨pk, 5, none⟩ = some (.int .u16 s) := hpk.cell 5
  have hq' : QL B w q ns L := by rw [← hL]; exact hq
  have hovf : ¬ (100 : Int) < ((L : Nat) : Int) := by omega
  have hne0 : ((L : Int) == 0) = false := by simp; omega
  have hovd : decide ((100 : Int) < (L : Int)) = false := by simp; omega
  have HHD : Hid ((if true = false ∧ its = [] then s else head) = head) := by
    show _ = _
    simp
  have HB := Lib.hid hb
  have HM := Lib.hid hm
  have HQ := Lib.hid hq'
  have HI := Lib.hid hits
  have HP := Lib.hid hpk
  have HL := Lib.hid hL
  clear hb hm hq hq' hits hpk hL
  obtain ⟨post, hpost⟩ : ∃ post, post = JPushPost B jb q mp s t ⟨mn, head, true, its⟩ w := ⟨_, rfl⟩
  rw [← hpost]
  have HPO := Lib.hid hpost
  clear hpost
  go_enter Try.func69, Try.ntmps69
  go_wp2_with fail
  refine (len_any B q L ns w HQ.out).mono ?_
  rintro e w1 ⟨rfl, rfl⟩
  go_wp2_with fail
  go_quiet ((go_at_call 51; exact Calls.quiet_of_same (len_any B q L ns _ (HQ.out.drewN _))))
  go_upto_region 7 with fail
  obtain ⟨w3, hw3⟩ : ∃ w3, w1.drewN nq = w3 := ⟨_, rfl⟩
  rw [hw3]
  have hb3 : Blk w3 jb 147 (jC q mn last head true s0 s1 s2 mp) := by rw [← hw3]; exact HB.out.drewN _
  have hm3 : ∃ c, w3.heap[mp]? = some (.map #[] c) := by rw [← hw3]; exact HM.out
  have hq3 : QL B w3 q ns L := by rw [← hw3]; exact HQ.out.drewN _
  have hp3 : Blk w3 pk 139 (pkCells s t) := by rw [← hw3]; exact HP.out.drewN _
  have ht3 : Touch (JT B jb q w1) w1 w3 := by rw [← hw3]; exact (Touch.refl _ _).drewN _
  have hB3 : B ≤ w3.heap.size := by rw [← hw3]; simpa using hB
  clear hw3 c0 c2 c4 c5 c10 f4 p5
  have p5 : w3.cell? ⟨pk, 5, none⟩ = some (.int .u16 s) := hp3.cell 5
  have HB4 := Lib.hid hb3
  have HM4 := Lib.hid hm3
  have HQ4 := Lib.hid hq3
  have HP4 := Lib.hid hp3
  have HT4 := Lib.hid ht3
  clear hb3 hm3 hq3 hp3 ht3
  go_wp2_with fail
  refine (stats_any B jb q mp mn last head s L true s0 s1 s2 ns w3 HB4.out HQ4.out).mono ?_
  rintro e w6 ⟨rfl, ht6, last6, s06, hb6⟩
  have HQ6 := Lib.hid (HQ4.out.jb HB4.out ht6)
  have HP6 := Lib.hid (HP4.out.jb HB4.out (by decide) ht6)
  have HM6 := Lib.hid (map_jb HM4.out HB4.out ht6)
  have HT6 := Lib.hid (HT4.out.jt ht6.ofJb)
  have HB6 := Lib.hid hb6
  have hB6 : B ≤ w6.heap.size := Nat.le_trans hB3 ht6.size
  have c0 : w6.cell? ⟨jb, 0, none⟩ = some (.pointer (some ⟨q, 0, none⟩)) := hb6.cell 0
  have p5 : w6.cell? ⟨pk, 5, none⟩ = some (.int .u16 s) := HP6.out.cell 5
  have HQ6A : Hid (∀ k, QAt B (w6.drewN k) q ns) := fun k => by
    have h := HQ6.out.drewN k
    rw [← HL.out] at h
    exact h
  have hlen : ns.length < 60000 := by rw [HL.out]; omega
  clear ht6 hb6
  go_wp2_with fail
  go_cut [] (fun wx => Hid (∃ ns', QAt B wx q ns' ∧ ns'.map itOf = insBy It.n ⟨s, t⟩ its ∧ Blk wx jb 147 (jC q mn last6 head true s06 s1 s2 mp) ∧ (∃ c, wx.heap[mp]? = some (.map #[] c)) ∧ Touch (JT B jb q w6) w6 wx ∧ ns'.length = L + 1))
  case first =>
    go_region_law (go_simp; go_at_call 44; refine (push_any B q pk s t ns _ (HQ6A.out _) hlen hB6 HP6.out hpB hs ht).mono ?_; rintro e w7 ⟨rfl, N, hN1, hN2, hN3, hput⟩; have H7 := Lib.hid (And.intro hN2 (And.intro hN3 hput)); clear hN1 hN2 hN3 hput)
    all_goals
      go_wp2_with fail
      go_meet
      obtain ⟨hN2, hN3, hqa, htq⟩ := H7.out
      have htq' : Touch (QT B q w6) w6 w7 := ⟨htq.os, htq.tape, htq.output, htq.size, htq.block⟩
      have hjq : jb ≠ q := HB6.out.unlike HQ6.out.head (by decide)
      exact ⟨_, hqa, by rw [itOf_ins, HI.out]; show insBy It.n (itOf N) _ = _; rw [show itOf N = ⟨s, t⟩ by rw [itOf, hN2, hN3]], HB6.out.qt htq' (by decide) hjq, map_qt HM6.out HQ6.out htq', htq'.ofQt, by rw [insBy_length, HL.out]⟩
  case rest =>
    obtain ⟨ns', h1, h2, h3, h4, h5, h6⟩ := hcut.out
    have HQ7 := Lib.hid (show QL B wc q ns' (L + 1) by rw [← h6]; exact h1)
    have HI7 := Lib.hid h2
    have HB7 := Lib.hid h3
    have HM7 := Lib.hid h4
    have HT7 := Lib.hid (HT6.out.jt h5)
    have HL7 := Lib.hid h6
    clear h1 h2 h3 h4 h5 h6 hcut c0 p5
    go_wp2_with fail
    refine (state_any B jb q mp mn last6 head (L + 1) true s06 s1 s2 ns' wc HB7.out HM7.out HQ7.out).mono ?_
    rintro e w8 ⟨rfl, ht8, hb8⟩
    have HB8 := Lib.hid hb8
    have HT8 := Lib.hid ht8
    clear ht8 hb8
    go_wp2_with fail
    go_end0
    rw [HPO.out]
    have hil : its.length = L := by rw [← HI.out, List.length_map, HL.out]
    refine ⟨rfl, HT7.out.jt HT8.out.ofJb, ns', ⟨⟨last6, s06, s1, s2, ?_⟩, map_jb HM7.out HB7.out HT8.out⟩, ?_, HI7.out⟩
    · have h := HB8.out
      unfold jPush
      simp only
      rw [HHD.out, hil]
      exact h
    · have h := HQ7.out.jb HB7.out HT8.out
      show QL B w8 q ns' ns'.length
      rw [HL7.out]
      exact h

theorem jpush_any (B jb q mp pk s t : Nat) (d : JS) (ns : List Nd) (w : World) (h : JQ B w jb q mp d ns) (hl : ns.length ≤ 99) (hpk : Blk w pk 139 (pkCells s t)) (hpB : B ≤ pk) (hB : B ≤ w.heap.size) (hs : s ≤ 65535) (ht : t ≤ 4294967295) :
    Calls Try.prog 69 #[.pointer (some ⟨jb, 0, none⟩), .pointer (some ⟨pk, 0, none⟩)] w (JPushPost B jb q mp s t d w) := by
  obtain ⟨mn, head, em, its⟩ := d
  rcases Nat.eq_zero_or_pos ns.length with h0 | h0
  · cases em with
    | false => exact jpush_f0 B jb q mp pk s t mn head _ its ns w h rfl h0 hl hpk hpB hB hs ht
    | true => exact jpush_t0 B jb q mp pk s t mn head _ its ns w h rfl h0 hl hpk hpB hB hs ht
  · cases em with
    | false => exact jpush_f1 B jb q mp pk s t mn head _ its ns w h rfl h0 hl hpk hpB hB hs ht
    | true => exact jpush_t1 B jb q mp pk s t mn head _ its ns w h rfl h0 hl hpk hpB hB hs ht
end Go.Proofs.Ytlkmmkphpiamcaa
