/-
  The jitter buffer: Pop; impl.jitter. Conditions: at most 100 packets. By an AI agent.
-/
import Derived.Test.YtlkmmkphpiamcaaJc
namespace Go.Proofs.Ytlkmmkphpiamcaa
open Go.RowKit

def JPopPost (B jb q mp : Nat) (d : JS) (w : World) (e : Ending) (w' : World) : Prop :=
  Touch (JT B jb q w) w w' ∧ match jHit d with
  | none => (∃ t x, e = .returned (.tuple #[.pointer none, .iface t x])) ∧ ∃ ns, JQ B w' jb q mp d ns
  | some y => (∃ pk t, e = .returned (.tuple #[.pointer (some ⟨pk, 0, none⟩), .nilIface]) ∧ Blk w' pk 139 (pkCells y.1.n t)) ∧ ∃ ns, JQ B w' jb q mp (jPop d) ns

theorem u16_next (n : Nat) : IntKind.u16.wrap ((n : Int) + 1) = (((n + 1) % 65536 : Nat) : Int) := by
  rw [IntKind.wrap_u16]
  omega

set_option maxRecDepth 1000000 in
set_option maxHeartbeats 3200000 in
theorem jpop_idle (B jb q mp mn head : Nat) (its : List It) (ns : List Nd) (w : World) (h : JQ B w jb q mp ⟨mn, head, false, its⟩ ns) :
    Calls Try.prog 70 #[.pointer (some ⟨jb, 0, none⟩)] w (JPopPost B jb q mp ⟨mn, head, false, its⟩ w) := by
  obtain ⟨last, s0, s1, s2, hb⟩ := h.jb.box
  simp only at hb
  have c6 : w.cell? ⟨jb, 6, none⟩ = some (.int .u16 0) := hb.cell 6
  have H := Lib.hid h
  clear h hb
  go_enter Try.func70, Try.ntmps70
  go_wp2_with fail
  go_ret2
  exact ⟨Touch.refl _ _, ⟨_, _, rfl⟩, ns, H.out⟩

set_option maxRecDepth 1000000 in
set_option maxHeartbeats 3200000 in
theorem jpop_em (B jb q mp mn head : Nat) (its : List It) (ns : List Nd) (w : World) (h : JQ B w jb q mp ⟨mn, head, true, its⟩ ns) (hl : ns.length < 60000) :
    Calls Try.prog 70 #[.pointer (some ⟨jb, 0, none⟩)] w (JPopPost B jb q mp ⟨mn, head, true, its⟩ w) := by
  obtain ⟨⟨⟨last, s0, s1, s2, hb⟩, hm⟩, hq, hits⟩ := h
  simp only at hb hits
  have c0 : w.cell? ⟨jb, 0, none⟩ = some (.pointer (some ⟨q, 0, none⟩)) := hb.cell 0
  have c4 : w.cell? ⟨jb, 4, none⟩ = some (.int .u16 head) := hb.cell 4
  have c6 : w.cell? ⟨jb, 6, none⟩ = some (.int .u16 1) := hb.cell 6
  have HB := Lib.hid hb
  have HM := Lib.hid hm
  have HQ := Lib.hid hq
  have HI := Lib.hid hits
  have HQA : Hid (∀ k, QAt B (w.drewN k) q ns) := fun k => HQ.out.drewN k
  clear hb hm hq hits
  obtain ⟨o, ho⟩ : ∃ o, takeBy (fun n : Nd => decide (n.seq = head)) ns = o := ⟨_, rfl⟩
  have HO := Lib.hid ho
  have HIT : Hid (jHit ⟨mn, head, true, its⟩ = o.map fun y => (itOf y.1, y.2.map itOf)) := by
    show jHit _ = _
    unfold jHit
    simp only [if_true]
    rw [← HI.out, itOf_take (fun x => decide (x.n = head)) (fun n : Nd => decide (n.seq = head)) (fun _ => rfl) ns, HO.out]
  clear ho
  obtain ⟨post, hpost⟩ : ∃ post, post = JPopPost B jb q mp ⟨mn, head, true, its⟩ w := ⟨_, rfl⟩
  rw [← hpost]
  have HPO := Lib.hid hpost
  clear hpost
  go_enter Try.func70, Try.ntmps70
  cases o with
  | none =>
    go_upto_region 3 with fail
    go_cut [4, 5] (fun v4 v5 wx => ∃ t x, v4 = .pointer none ∧ v5 = .iface t x ∧ Hid (∃ k, wx = w.drewN k))
    case first =>
      go_region_law (go_simp; go_at_call 48; refine (popAt_any B q head ns _ (HQA.out _) hl).mono ?_; rw [HO.out]; rintro e w7 ⟨⟨ty, xx, rfl⟩, hw7⟩; have H7 := Lib.hid hw7; clear hw7)
      all_goals
        go_wp2_with fail
        go_meet
        exact ⟨ty, xx, rfl, rfl, ⟨_, H7.out⟩⟩
    case rest =>
      obtain ⟨ty, xx, rfl, rfl, hk⟩ := hcut
      obtain ⟨k, hk⟩ := hk.out
      have hb2 : Blk wc jb 147 (jC q mn last head true s0 s1 s2 mp) := by rw [hk]; exact HB.out.drewN _
      have hm2 : ∃ c, wc.heap[mp]? = some (.map #[] c) := by rw [hk]; exact HM.out
      have hq2 : QAt B wc q ns := by rw [hk]; exact HQ.out.drewN _
      have ht2 : Touch (JT B jb q w) w wc := by rw [hk]; exact (Touch.refl _ _).drewN _
      have c8 : wc.cell? ⟨jb, 8, none⟩ = some (.int .u32 s1) := hb2.cell 8
      have f8 := hb2.free 8
      have htj : Touch (· = jb) wc (wc.setCell ⟨jb, 8, none⟩ (.int .u32 (IntKind.u32.wrap (s1 + 1)))) := (Touch.refl (· = jb) wc).setCell (p := ⟨jb, 8, none⟩) (fun _ => rfl) _
      have hb3 : Blk (wc.setCell ⟨jb, 8, none⟩ (.int .u32 (IntKind.u32.wrap (s1 + 1)))) jb 147 (jC q mn last head true s0 (IntKind.u32.wrap (s1 + 1)) s2 mp) := by simpa [jC] using hb2.put 8 (.int .u32 (IntKind.u32.wrap (s1 + 1)))
      have HB3 := Lib.hid hb3
      have HM3 := Lib.hid (map_jb hm2 hb2 htj)
      have HQ3 := Lib.hid (hq2.jb hb2 htj)
      have HT3 := Lib.hid (ht2.jt htj.ofJb)
      clear hk hb2 hm2 hq2 ht2 htj hb3 c0 c4 c6
      go_wp2_with fail
      refine (emit_any jb mp _ (by decide) _ (HB3.out.cell 10) HM3.out).mono ?_
      rintro e w9 ⟨rfl, rfl⟩
      go_wp2_with fail
      rw [HPO.out]
      refine ⟨HT3.out, ?_⟩
      rw [HIT.out]
      exact ⟨⟨_, _, rfl⟩, ns, ⟨⟨last, s0, _, s2, HB3.out⟩, HM3.out⟩, HQ3.out, HI.out⟩
  | some y =>
    go_upto_region 3 with fail
    go_cut [4, 5] (fun v4 v5 wx => v4 = .pointer (some ⟨y.1.pk, 0, none⟩) ∧ v5 = .nilIface ∧ Hid (TakeOk B q w wx y.1 y.2))
    case first =>
      go_region_law (go_simp; go_at_call 48; refine (popAt_any B q head ns _ (HQA.out _) hl).mono ?_; rw [HO.out]; rintro e w7 ⟨rfl, hok⟩; have H7 := Lib.hid hok; clear hok)
      all_goals
        go_wp2_with fail
        go_meet
        obtain ⟨h1, h2, h3⟩ := H7.out
        exact ⟨rfl, rfl, h1, ⟨h2.os, h2.tape, h2.output, h2.size, h2.block⟩, h3⟩
    case rest =>
      obtain ⟨rfl, rfl, hk⟩ := hcut
      obtain ⟨hq2, ht2, hp2⟩ := hk.out
      have hjq : jb ≠ q := HB.out.unlike HQ.out.head (by decide)
      have hb2 := HB.out.qt ht2 (by decide) hjq
      have hm2 := map_qt HM.out HQ.out ht2
      have c4' : wc.cell? ⟨jb, 4, none⟩ = some (.int .u16 head) := hb2.cell 4
      have f4 := hb2.free 4
      have hnx := u16_next head
      have htj : Touch (· = jb) wc (wc.setCell ⟨jb, 4, none⟩ (.int .u16 (((head + 1) % 65536 : Nat) : Int))) := (Touch.refl (· = jb) wc).setCell (p := ⟨jb, 4, none⟩) (fun _ => rfl) _
      have hb3 : Blk (wc.setCell ⟨jb, 4, none⟩ (.int .u16 (((head + 1) % 65536 : Nat) : Int))) jb 147 (jC q mn last ((head + 1) % 65536) true s0 s1 s2 mp) := by simpa [jC] using hb2.put 4 (.int .u16 (((head + 1) % 65536 : Nat) : Int))
      have HB3 := Lib.hid hb3
      have HM3 := Lib.hid (map_jb hm2 hb2 htj)
      have HQ3 := Lib.hid (hq2.jb hb2 htj)
      have HP3 := Lib.hid (hp2.jb hb2 (by decide) htj)
      have HT3 := Lib.hid ((ht2.ofQt (jb := jb)).jt htj.ofJb)
      clear hk hb2 hm2 hq2 ht2 hp2 htj hb3 c0 c4 c6 hjq
      generalize hhd : (head + 1) % 65536 = hd at *
      have HHD := Lib.hid hhd
      clear hhd
      go_wp2_with fail
      refine (state_any B jb q mp mn last hd y.2.length true s0 s1 s2 y.2 _ HB3.out HM3.out HQ3.out).mono ?_
      rintro e w9 ⟨rfl, ht9, hb9⟩
      have HB9 := Lib.hid hb9
      have HT9 := Lib.hid ht9
      clear ht9 hb9
      go_wp2_with fail
      rw [HPO.out]
      refine ⟨HT3.out.jt HT9.out.ofJb, ?_⟩
      have hjp : jPop ⟨mn, head, true, its⟩ = ⟨mn, (head + 1) % 65536, true, y.2.map itOf⟩ := by
        unfold jPop
        rw [HIT.out]
        rfl
      rw [hjp, HHD.out, HIT.out]
      exact ⟨⟨y.1.pk, y.1.time, rfl, HP3.out.jb HB3.out (by decide) HT9.out⟩, y.2, ⟨⟨last, s0, s1, s2, HB9.out⟩, map_jb HM3.out HB3.out HT9.out⟩, HQ3.out.jb HB3.out HT9.out, rfl⟩

theorem jpop_any (B jb q mp : Nat) (d : JS) (ns : List Nd) (w : World) (h : JQ B w jb q mp d ns) (hl : ns.length < 60000) :
    Calls Try.prog 70 #[.pointer (some ⟨jb, 0, none⟩)] w (JPopPost B jb q mp d w) := by
  obtain ⟨mn, head, em, its⟩ := d
  cases em with
  | false => exact jpop_idle B jb q mp mn head its ns w h
  | true => exact jpop_em B jb q mp mn head its ns w h hl
end Go.Proofs.Ytlkmmkphpiamcaa
