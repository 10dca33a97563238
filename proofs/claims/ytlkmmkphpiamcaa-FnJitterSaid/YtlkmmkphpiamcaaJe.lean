/-
  impl.jitter: a packet is put in, or taken. Conditions: at most 100 packets. By an AI agent.
-/
import Derived.Test.YtlkmmkphpiamcaaJd
namespace Go.Proofs.Ytlkmmkphpiamcaa
open Go.RowKit

theorem jblk {w : World} {k : Nat} {t : TypeId} {cs : Array Value} (h : k = w.heap.size) : Blk (w.alloc (.cells cs t)) k t cs := by subst h; exact Blk.new w t cs
section
variable {B jb q mp : Nat} {d : JS} {ns : List Nd} {w w' : World}
theorem JQ.idle (h : JQ B w jb q mp d ns) (ht : Touch Nowhere w w') : JQ B w' jb q mp d ns := by
  obtain ⟨⟨⟨last, s0, s1, s2, hb⟩, c, hm⟩, hq, hi⟩ := h
  exact ⟨⟨⟨last, s0, s1, s2, hb.touch ht (fun h => h)⟩, c, map_touch hm ht (fun _ h => False.elim h)⟩, hq.calm ht (fun _ _ _ _ _ h => h), hi⟩
theorem JQ.far {b t i : Nat} {cs : Array Value} (h : JQ B w jb q mp d ns) (hb : Blk w b t cs) (h1 : t ≠ 129) (h2 : t ≠ 132) (h3 : t ≠ 139) (h4 : t ≠ 147) (u : Value) : JQ B (w.setCell ⟨b, i, none⟩ u) jb q mp d ns := by
  obtain ⟨⟨⟨last, s0, s1, s2, hx⟩, c, hm⟩, hq, hi⟩ := h
  refine ⟨⟨⟨last, s0, s1, s2, hx.far (p := ⟨b, i, none⟩) (hx.unlike hb (Ne.symm h4)) u⟩, c, map_far hm hb⟩, ?_, hi⟩
  exact ⟨hq.head.far (p := ⟨b, i, none⟩) (hq.head.unlike hb (Ne.symm h1)) u, hq.seg.keep (fun n hn cs hc => hc.far (p := ⟨b, i, none⟩) (hc.unlike hb (Ne.symm h2)) u) (fun n hn cs hc => hc.far (p := ⟨b, i, none⟩) (hc.unlike hb (Ne.symm h3)) u), hq.lows, hq.apart⟩
theorem JQ.lts (h : JQ B w jb q mp d ns) : jb < w.heap.size ∧ q < w.heap.size := by
  obtain ⟨⟨⟨last, s0, s1, s2, hb⟩, _⟩, hq, _⟩ := h
  exact ⟨hb.lt, hq.head.lt⟩
theorem Blk.jt {b t : Nat} {cs : Array Value} (h : Blk w b t cs) (ht : Touch (JT B jb q w) w w') (h1 : t ≠ 132) (h2 : b ≠ jb) (h3 : b ≠ q) : Blk w' b t cs :=
  h.touch ht fun hs => by
    rcases hs with rfl | rfl | ⟨_, cs', hc⟩
    · exact h2 rfl
    · exact h3 rfl
    · exact h.unlike hc h1 rfl
theorem Touch.jtOf {a b c : World} (h : Touch Nowhere a b) (k : Touch (JT B jb q b) b c) : Touch (JT B jb q a) a c :=
  (h.mono (S' := JT B jb q a) fun _ _ h => False.elim h).jt k
end

def JitPost (B jb q mp : Nat) (s : Stp) (d : JS) (w : World) (e : Ending) (w' : World) : Prop :=
  e = .returned (ansV (jAns s d)) ∧ Touch (JT B jb q w) w w' ∧ ∃ ns, JQ B w' jb q mp (jNext s d) ns

set_option maxRecDepth 1000000 in
set_option maxHeartbeats 1600000 in
theorem jit_push (B jb q mp sq tm : Nat) (d : JS) (ns : List Nd) (w : World) (h : JQ B w jb q mp d ns) (hl : ns.length ≤ 99) (hB : B ≤ w.heap.size) (hs : sq ≤ 65535) (ht : tm ≤ 4294967295) :
    Calls Try.prog 55 #[.pointer (some ⟨jb, 0, none⟩), .agg #[.int .i64 0, .int .u16 sq, .int .u32 tm]] w (JitPost B jb q mp ⟨0, sq, tm⟩ d w) := by
  have hlts := h.lts
  have hW : Touch Nowhere w ((w.alloc (.cells #[.int .i64 0, .int .u16 sq, .int .u32 tm] 45)).alloc (.cells #[.bool false, .int .u16 0, .int .i64 0] 59)) := ((Touch.refl _ w).alloc _).alloc _
  have HA : Hid (Blk ((w.alloc (.cells #[.int .i64 0, .int .u16 sq, .int .u32 tm] 45)).alloc (.cells #[.bool false, .int .u16 0, .int .i64 0] 59)) (w.heap.size + 1) 59 #[.bool false, .int .u16 0, .int .i64 0]) := jblk (by simp)
  have HS : Hid (Blk ((w.alloc (.cells #[.int .i64 0, .int .u16 sq, .int .u32 tm] 45)).alloc (.cells #[.bool false, .int .u16 0, .int .i64 0] 59)) w.heap.size 45 #[.int .i64 0, .int .u16 sq, .int .u32 tm]) := (Blk.new _ _ _).alloc _
  have HJ := Lib.hid (h.idle hW)
  have HW := Lib.hid hW
  have HLT := Lib.hid hlts
  clear h hW hlts
  go_enter Try.func55, Try.ntmps55
  go_upto_region 3 with fail
  generalize hw : (w.alloc (.cells #[.int .i64 0, .int .u16 sq, .int .u32 tm] 45)).alloc (.cells #[.bool false, .int .u16 0, .int .i64 0] 59) = W at *
  have t0 := HS.out.cell 0
  have t1 := HS.out.cell 1
  have t2 := HS.out.cell 2
  simp at t0 t1 t2
  have hsz := HW.out.size
  clear hw
  go_wp2_with fail
  refine (packet_p 0 sq tm W).mono ?_
  rintro e w3 ⟨pk, rfl, ht3, hp3, hle3⟩
  have HJ3 := Lib.hid (HJ.out.idle ht3)
  have HA3 := Lib.hid (HA.out.touch ht3 (fun h => h))
  have HT3 := Lib.hid (HW.out.trans ht3 (fun _ _ h => h))
  have HP3 := Lib.hid hp3
  have hB3 : B ≤ w3.heap.size := Nat.le_trans hB HT3.out.size
  have hpB : B ≤ pk := by omega
  clear ht3 hp3 t0 t1 t2
  go_wp2_with fail
  refine (jpush_any B jb q mp pk sq tm d ns w3 HJ3.out hl HP3.out hpB hB3 hs ht).mono ?_
  rintro e w4 ⟨rfl, ht4, ns4, hj4⟩
  have HA4 := Lib.hid (HA3.out.jt ht4 (by decide) (by have := HLT.out.1; omega) (by have := HLT.out.2; omega))
  have HT4 := Lib.hid (HT3.out.jtOf ht4)
  have HJ4 := Lib.hid hj4
  have b0 := HA4.out.cell 0
  have b1 := HA4.out.cell 1
  have b2 := HA4.out.cell 2
  have f0 := HA4.out.free 0
  have f1 := HA4.out.free 1
  have f2 := HA4.out.free 2
  simp at b0 b1 b2
  clear ht4 hj4
  have ha5 := ((HA4.out.put 0 (.bool true)).put 1 (.int .u16 0)).put 2 (.int .i64 0)
  simp at ha5
  have r0 := ha5.cell 0
  have r1 := ha5.cell 1
  have r2 := ha5.cell 2
  simp at r0 r1 r2
  have HJ5 := Lib.hid (((HJ4.out.far (i := 0) HA4.out (by decide) (by decide) (by decide) (by decide) (.bool true)).far (i := 1) (HA4.out.put 0 (.bool true)) (by decide) (by decide) (by decide) (by decide) (.int .u16 0)).far (i := 2) ((HA4.out.put 0 (.bool true)).put 1 (.int .u16 0)) (by decide) (by decide) (by decide) (by decide) (.int .i64 0))
  have HT5 := Lib.hid (((HT4.out.setCell (p := ⟨w.heap.size + 1, 0, none⟩) (fun h => absurd h (by simp)) (.bool true)).setCell (p := ⟨w.heap.size + 1, 1, none⟩) (fun h => absurd h (by simp)) (.int .u16 0)).setCell (p := ⟨w.heap.size + 1, 2, none⟩) (fun h => absurd h (by simp)) (.int .i64 0))
  clear ha5
  go_wp2_with fail
  exact bodyPost_ret (v := ansV ⟨true, 0, 0⟩) (by simp [results, Try.results55, go_sem, ansV, r0, r1, r2]) rfl ⟨rfl, HT5.out, ns4, HJ5.out⟩

set_option maxRecDepth 1000000 in
set_option maxHeartbeats 1600000 in
theorem jit_pop (B jb q mp sq tm : Nat) (d : JS) (ns : List Nd) (w : World) (h : JQ B w jb q mp d ns) (hl : ns.length < 60000) :
    Calls Try.prog 55 #[.pointer (some ⟨jb, 0, none⟩), .agg #[.int .i64 1, .int .u16 sq, .int .u32 tm]] w (JitPost B jb q mp ⟨1, sq, tm⟩ d w) := by
  have hlts := h.lts
  have hW : Touch Nowhere w ((w.alloc (.cells #[.int .i64 1, .int .u16 sq, .int .u32 tm] 45)).alloc (.cells #[.bool false, .int .u16 0, .int .i64 0] 59)) := ((Touch.refl _ w).alloc _).alloc _
  have HA : Hid (Blk ((w.alloc (.cells #[.int .i64 1, .int .u16 sq, .int .u32 tm] 45)).alloc (.cells #[.bool false, .int .u16 0, .int .i64 0] 59)) (w.heap.size + 1) 59 #[.bool false, .int .u16 0, .int .i64 0]) := jblk (by simp)
  have HJ := Lib.hid (h.idle hW)
  have HW := Lib.hid hW
  have HLT := Lib.hid hlts
  clear h hW hlts
  go_enter Try.func55, Try.ntmps55
  go_upto_region 6 with fail
  generalize hw : (w.alloc (.cells #[.int .i64 1, .int .u16 sq, .int .u32 tm] 45)).alloc (.cells #[.bool false, .int .u16 0, .int .i64 0] 59) = W at *
  have hsz := HW.out.size
  clear hw
  go_wp2_with fail
  refine (jpop_any B jb q mp d ns W HJ.out hl).mono ?_
  rintro e w4 ⟨ht4, hpost⟩
  have HA4 := Lib.hid (HA.out.jt ht4 (by decide) (by have := HLT.out.1; omega) (by have := HLT.out.2; omega))
  have HT4 := Lib.hid (HW.out.jtOf ht4)
  clear ht4
  obtain ⟨o, ho⟩ : ∃ o, jHit d = o := ⟨_, rfl⟩
  have HO := Lib.hid ho
  rw [ho] at hpost
  clear ho
  cases o with
  | none =>
    obtain ⟨⟨ty, xx, rfl⟩, ns4, hj4⟩ := hpost
    go_wp2_with fail
    refine (told_n ty xx w4).mono ?_
    rintro e w5 ⟨rfl, ht5⟩
    have HA5 := Lib.hid (HA4.out.touch ht5 (fun h => h))
    have HT5 := Lib.hid (HT4.out.jt (ht5.mono (S' := JT B jb q w4) fun _ _ h => False.elim h))
    have HJ5 := Lib.hid (hj4.idle ht5)
    have b0 := HA5.out.cell 0
    have b1 := HA5.out.cell 1
    have b2 := HA5.out.cell 2
    have f0 := HA5.out.free 0
    have f1 := HA5.out.free 1
    have f2 := HA5.out.free 2
    simp at b0 b1 b2
    have ha6 := ((HA5.out.put 0 (.bool false)).put 1 (.int .u16 0)).put 2 (.int .i64 0)
    simp at ha6
    have r0 := ha6.cell 0
    have r1 := ha6.cell 1
    have r2 := ha6.cell 2
    simp at r0 r1 r2
    have HJ6 := Lib.hid (((HJ5.out.far (i := 0) HA5.out (by decide) (by decide) (by decide) (by decide) (.bool false)).far (i := 1) (HA5.out.put 0 (.bool false)) (by decide) (by decide) (by decide) (by decide) (.int .u16 0)).far (i := 2) ((HA5.out.put 0 (.bool false)).put 1 (.int .u16 0)) (by decide) (by decide) (by decide) (by decide) (.int .i64 0))
    have HT6 := Lib.hid (((HT5.out.setCell (p := ⟨w.heap.size + 1, 0, none⟩) (fun h => absurd h (by simp)) (.bool false)).setCell (p := ⟨w.heap.size + 1, 1, none⟩) (fun h => absurd h (by simp)) (.int .u16 0)).setCell (p := ⟨w.heap.size + 1, 2, none⟩) (fun h => absurd h (by simp)) (.int .i64 0))
    clear ha6 ht5 hj4
    simp only [ansV] at *
    go_wp2_with fail
    refine bodyPost_ret (v := .agg #[.bool false, .int .u16 0, .int .i64 0]) (by simp [results, Try.results55, go_sem, r0, r1, r2]) rfl ⟨?_, HT6.out, ns4, ?_⟩
    · show _ = Ending.returned (ansV (anOf ((jHit d).map Prod.fst)))
      rw [HO.out]
      rfl
    · show JQ B _ jb q mp (jPop d) ns4
      rw [show jPop d = d by unfold jPop; rw [HO.out]]
      exact HJ6.out
  | some y =>
    obtain ⟨⟨pk, tt, rfl, hp4⟩, ns4, hj4⟩ := hpost
    go_wp2_with fail
    refine (told_s pk y.1.n tt w4 hp4).mono ?_
    rintro e w5 ⟨rfl, ht5⟩
    have HA5 := Lib.hid (HA4.out.touch ht5 (fun h => h))
    have HT5 := Lib.hid (HT4.out.jt (ht5.mono (S' := JT B jb q w4) fun _ _ h => False.elim h))
    have HJ5 := Lib.hid (hj4.idle ht5)
    have b0 := HA5.out.cell 0
    have b1 := HA5.out.cell 1
    have b2 := HA5.out.cell 2
    have f0 := HA5.out.free 0
    have f1 := HA5.out.free 1
    have f2 := HA5.out.free 2
    simp at b0 b1 b2
    have ha6 := ((HA5.out.put 0 (.bool true)).put 1 (.int .u16 (y.1.n : Nat))).put 2 (.int .i64 0)
    simp at ha6
    have r0 := ha6.cell 0
    have r1 := ha6.cell 1
    have r2 := ha6.cell 2
    simp at r0 r1 r2
    have HJ6 := Lib.hid (((HJ5.out.far (i := 0) HA5.out (by decide) (by decide) (by decide) (by decide) (.bool true)).far (i := 1) (HA5.out.put 0 (.bool true)) (by decide) (by decide) (by decide) (by decide) (.int .u16 (y.1.n : Nat))).far (i := 2) ((HA5.out.put 0 (.bool true)).put 1 (.int .u16 (y.1.n : Nat))) (by decide) (by decide) (by decide) (by decide) (.int .i64 0))
    have HT6 := Lib.hid (((HT5.out.setCell (p := ⟨w.heap.size + 1, 0, none⟩) (fun h => absurd h (by simp)) (.bool true)).setCell (p := ⟨w.heap.size + 1, 1, none⟩) (fun h => absurd h (by simp)) (.int .u16 (y.1.n : Nat))).setCell (p := ⟨w.heap.size + 1, 2, none⟩) (fun h => absurd h (by simp)) (.int .i64 0))
    clear ha6 ht5 hj4
    simp only [ansV] at *
    go_wp2_with fail
    refine bodyPost_ret (v := .agg #[.bool true, .int .u16 (y.1.n : Nat), .int .i64 0]) (by simp [results, Try.results55, go_sem, r0, r1, r2]) rfl ⟨?_, HT6.out, ns4, ?_⟩
    · show _ = Ending.returned (ansV (anOf ((jHit d).map Prod.fst)))
      rw [HO.out]
      rfl
    · show JQ B _ jb q mp (jPop d) ns4
      exact HJ6.out

theorem jitter_any (B jb q mp : Nat) (s : Stp) (d : JS) (ns : List Nd) (w : World) (h : JQ B w jb q mp d ns) (hl : ns.length ≤ 99) (hB : B ≤ w.heap.size) (hw : s.what ≤ 1) (hs : s.seq ≤ 65535) (ht : s.time ≤ 4294967295) :
    Calls Try.prog 55 #[.pointer (some ⟨jb, 0, none⟩), .agg #[.int .i64 s.what, .int .u16 s.seq, .int .u32 s.time]] w (JitPost B jb q mp s d w) := by
  obtain ⟨wh, sq, tm⟩ := s
  have hwh : wh = 0 ∨ wh = 1 := by simp only at hw; omega
  rcases hwh with rfl | rfl
  · exact jit_push B jb q mp sq tm d ns w h hl hB hs ht
  · exact jit_pop B jb q mp sq tm d ns w h (by omega)
end Go.Proofs.Ytlkmmkphpiamcaa
