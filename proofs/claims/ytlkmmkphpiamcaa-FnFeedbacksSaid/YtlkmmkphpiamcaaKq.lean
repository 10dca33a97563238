/-
  Feedback: addReceived for a time before the last one. Condition: the feedback lies in its blocks; times are multiples of 250. By an AI agent.
-/
import Derived.Test.YtlkmmkphpiamcaaKp
namespace Go.Proofs.Ytlkmmkphpiamcaa
open Go.RowKit

set_option maxRecDepth 1000000 in
set_option maxHeartbeats 2000000 in
theorem addRecv_neg (base k n nq J : Nat) (f : FB) (S : List Nat) (D : List Int) (t dl e : Int) (w : World) (hF : FbAt w base k f S D n) (hdl : t - f.last = dl) (he : dl = 250 * e)
    (hfit : -32768 ≤ e ∧ e < 0) (hL : -9000000000000000 < f.last ∧ f.last < 9000000000000000) (hnext : f.next = nq % 65536) (hJ : J < 256) (hS : S.length + J < 3000) (hcnt : f.cnt = S.length) (hlen : 0 ≤ f.len ∧ f.len ≤ 2 * (S.length : Int)) (hD : D.length < 3000) :
    Calls Try.prog 103 #[.pointer (some ⟨k, 0, none⟩), .int .u16 (((nq + J) % 65536 : Nat) : Int), .int .i64 t] w fun v w' => v = .returned (.bool true) ∧ ∃ f' n', Recv base k f S D J nq t dl w w' f' n' := by
  obtain ⟨i0, hi0, hz0, hz1, hz2⟩ := info_parts info_chunkK
  obtain ⟨i1, hi1, hy0, hy1, hy2⟩ := info_parts info_timeK
  have c3 := hF.blk.cell 3
  simp [FB.cells] at c3
  obtain ⟨L, hLe⟩ : ∃ L, f.last = L := ⟨_, rfl⟩
  have HLE := Lib.hid hLe
  rw [hLe] at c3 hdl hL
  obtain ⟨hL1, hL2⟩ := hL
  obtain ⟨he1, he2⟩ := hfit
  have h0 : ¬ 0 ≤ dl := by omega
  have hd2 : -8192000 ≤ dl := by omega
  have hq : Int.tdiv (dl - 125) 250 = e := by
    have h1 : dl - 125 = -(-dl + 125) := by omega
    rw [h1, Int.neg_tdiv, Int.tdiv_eq_ediv_of_nonneg (by omega)]
    omega
  have hmul : e * 250 = dl := by omega
  have hst : AddIn base k f S D w 0 w f n := ⟨by simpa using hF, rfl, ⟨rfl, rfl, rfl⟩, rfl, rfl, Touch.refl _ _⟩
  have HST := Lib.hid hst
  have HN := Lib.hid hnext
  have HC := Lib.hid hcnt
  have HLN := Lib.hid hlen
  have HDL := Lib.hid hD
  have HE := Lib.hid he
  obtain ⟨sq, hsq⟩ : ∃ sq, (nq + J) % 65536 = sq := ⟨_, rfl⟩
  have HSQ := Lib.hid hsq
  rw [hsq]
  clear he hLe hst hF hnext hcnt hlen hsq hD
  go_enter Try.func103, Try.ntmps103
  go_wp2_with fail
  go_loopw [] (fun wr => ∃ (j n' : Nat) (f' : FB) (X : Nat), j ≤ J ∧ wr.cell? ⟨k, 4, none⟩ = some (.int .u16 (X : Int)) ∧ Hid (X = (nq + j) % 65536 ∧ f'.next = X) ∧ Hid (AddIn base k f S D w j wr f' n')) (fun wr => (sq + 65536 - cellN wr ⟨k, 4, none⟩) % 65536)
  case atStart =>
    have h4 := HST.out.at_.blk.cell 4
    simp [FB.cells] at h4
    exact ⟨0, n, f, f.next, by omega, h4, ⟨by rw [HN.out]; rfl, rfl⟩, HST.out⟩
  case round =>
    obtain ⟨j, n', f', X, hj, e4, HX, HA⟩ := hrel
    by_cases hlt : j < J
    · have hne : (X : Int) ≠ (sq : Int) := by
        have := HX.out.1
        have := HSQ.out
        omega
      go_wp2_with fail
      refine (canAdd_fb base k 0 n' f' (S ++ List.replicate j 0) D wr HA.out.at_ (by rw [List.length_append, List.length_replicate]; omega)).mono ?_
      rintro v w' ⟨⟨β, rfl, hβ⟩, hw⟩
      obtain rfl := hw.symm
      clear hw
      have HB := Lib.hid hβ
      clear hβ
      cases β with
      | true =>
        have t12 := Touch.refl (fun b => base ≤ b) wr
        go_wp2_with fail
        refine (add_fb base k 0 n' f' (S ++ List.replicate j 0) D wr HA.out.at_ (by rw [List.length_append, List.length_replicate]; omega)).mono ?_
        rintro v w2 ⟨rfl, v2, hl2, hd2, h2, t2⟩
        obtain ⟨f2, hf2⟩ : ∃ f2 : FB, { f' with v := v2, hl := hl2, hd := hd2 } = f2 := ⟨_, rfl⟩
        have k2 : Kept f f2 := by rw [← hf2]; exact ⟨HA.out.kept.rt, HA.out.kept.base, HA.out.kept.ref⟩
        have l2 : f2.last = f.last ∧ f2.len = f.len ∧ f2.cnt = f'.cnt ∧ f2.next = f'.next := by rw [← hf2]; exact ⟨HA.out.last, HA.out.len, rfl, rfl⟩
        rw [hf2] at h2
        have x5 := h2.blk.cell 5
        have x4 := h2.blk.cell 4
        have g5 := h2.blk.free 5
        have g4 := h2.blk.free 4
        simp [FB.cells, l2.2.2.1, l2.2.2.2] at x5 x4
        have e0 := HX.out
        rw [e0.2] at x4
        have e1 : f'.cnt = f.cnt + j := HA.out.cnt
        have e2 := HC.out
        obtain ⟨cn, hcn⟩ : ∃ cn, f'.cnt = cn := ⟨_, rfl⟩
        rw [hcn] at x5
        have hcw : IntKind.u16.wrap ((cn : Int) + 1) = ((cn + 1 : Nat) : Int) := by rw [IntKind.wrap_u16]; omega
        obtain ⟨Y, hY⟩ : ∃ Y, (nq + (j + 1)) % 65536 = Y := ⟨_, rfl⟩
        have hxw : IntKind.u16.wrap ((X : Int) + 1) = (Y : Int) := by rw [IntKind.wrap_u16]; omega
        have h3 := h2.set (f' := { f2 with cnt := cn + 1 }) 5 (.int .u16 ((cn + 1 : Nat) : Int)) (by simp [FB.cells]) rfl rfl rfl rfl
        have h4 := h3.set (f' := { f2 with cnt := cn + 1, next := Y }) 4 (.int .u16 (Y : Int)) (by simp [FB.cells]) rfl rfl rfl rfl
        have hlo := h2.lo
        have t4 := (((HA.out.touch.trans t12 fun _ _ h => h).trans t2 fun _ _ h => h).setCell (p := ⟨k, 5, none⟩) (fun _ => hlo) (.int .u16 ((cn + 1 : Nat) : Int))).setCell (p := ⟨k, 4, none⟩) (fun _ => hlo) (.int .u16 (Y : Int))
        have hnew : AddIn base k f S D w (j + 1) ((w2.setCell ⟨k, 5, none⟩ (.int .u16 ((cn + 1 : Nat) : Int))).setCell ⟨k, 4, none⟩ (.int .u16 (Y : Int))) { f2 with cnt := cn + 1, next := Y } (n' + 1) :=
          ⟨by rw [List.replicate_succ', ← List.append_assoc]; exact h4, by simp only; omega, ⟨k2.rt, k2.base, k2.ref⟩, l2.1, l2.2.1, t4⟩
        have y4 : ((w2.setCell ⟨k, 5, none⟩ (.int .u16 ((cn + 1 : Nat) : Int))).setCell ⟨k, 4, none⟩ (.int .u16 (Y : Int))).cell? ⟨k, 4, none⟩ = some (.int .u16 (Y : Int)) := by
          have := hnew.at_.blk.cell 4
          simpa [FB.cells] using this
        have HNEW := Lib.hid (And.intro hnew y4)
        have HY := Lib.hid hY
        have hcw2 : IntKind.u16.wrap ((cn : Int) + 1) = (cn : Int) + 1 := by rw [hcw]; omega
        have hcs : ((cn + 1 : Nat) : Int) = (cn : Int) + 1 := by omega
        rw [hcs] at HNEW
        clear hcw hcs h2 h3 h4 t4 hnew y4 hY k2 hf2 t2 l2 e0 e1 e2 hcn
        go_wp2_with fail
        obtain ⟨hnew, y4⟩ := HNEW.out
        refine ⟨⟨j + 1, _, _, Y, by omega, y4, ⟨HY.out.symm, rfl⟩, hnew⟩, ?_⟩
        rw [cellN_of y4, cellN_of e4]
        have := HX.out
        have := HY.out
        have := HSQ.out
        omega
      | false =>
        obtain ⟨ds, cl, ps, T, hcore, hr1, hr2, hr3, hr4, hr5⟩ := (HA.out.at_.drewN 1).core
        obtain ⟨A, cc, hchs, _, _⟩ := hcore.chs.shape
        have e10 := HA.out.at_.blk.cell 10
        simp [FB.cells, hchs] at e10
        have hb7 := HB.out rfl
        have hbl : S.length + j < 3000 := by omega
        have hSl : (S ++ List.replicate j 0).length = S.length + j := by rw [List.length_append, List.length_replicate]
        have hb1 : cl.length + 1 ≤ maxLen := by simp only [maxLen]; omega
        have hb2 : (cl.length + 1) * 16 ≤ 140737488355328 := by omega
        have HENC := Lib.hid (encode_any k ds.length base f' ds wr.drew (HA.out.at_.drewN 1).blk hcore.own (by omega) (by omega) hr5 (by have := HA.out.at_.lo; have := HA.out.at_.blk.lt; simp; omega))
        have HCO := Lib.hid hcore
        have HRR := Lib.hid (And.intro hr1 (And.intro hr2 (And.intro hr3 hr4)))
        have HCH := Lib.hid hchs
        have hkb := HA.out.at_.lo
        clear hcore hr1 hr2 hr3 hr4 hr5 hchs hSl hb7
        go_upto_region 12 with fail
        go_region_law (first
          | (go_simp; go_at_call 104; refine HENC.out.mono ?_; rintro v w1 ⟨c, a, b, v', hl', hd', rfl, henc⟩; obtain ⟨ty, q, rfl⟩ := henc.form; have d10 := henc.blk.cell 10; simp [FB.cells, HCH.out] at d10; have d10a : (w1.alloc (.cells #[.iface ty (.pointer (some ⟨q, 0, none⟩))] 187)).cell? ⟨k, 10, none⟩ = some (.slice A cl.length cc) := (((henc.blk.alloc _).cell 10).trans (by simp [FB.cells, HCH.out])); have HEN := Lib.hid henc; clear henc)
          | (refine step_append_au _ rfl (.tmp 55) (.tmp 60) 166 166 rfl base 187 i0 _ 1 16 Try.underlying166 hi0 hz0 hz1 hz2 rfl (by decide) (.slice A cl.length cc) cl.length cl ?_ (by have h := (HCO.out.encode (HA.out.at_.drewN 1).blk HEN.out).chs; rw [HCH.out] at h; exact h.alloc _) (.slice (some ⟨w1.heap.size, 0, none⟩) 1 1) 1 [.iface ty (.pointer (some ⟨q, 0, none⟩))] ?_ (Src.ofSlice _ Try.underlying166 ⟨w1.heap.size, 0, none⟩ 1 1 _ rfl (World.news_of_block (cs := #[.iface ty (.pointer (some ⟨q, 0, none⟩))]) (t := 187) (fr := (0, 0)) (heap_alloc_new w1 _)) HEN.out.one) hb1 hb2 (by have h := HEN.out.touch.size; have h2 := HA.out.at_.blk.lt; simp at h ⊢; omega) ?_; go_simp; go_simp; intro A2 c2 w2 own2 hg2 hgr2 hsp2; have hbk := flush_blk (HA.out.at_.drewN 1) HCO.out HEN.out (by rw [HCH.out]; exact hg2); have y10 := hbk.cell 10; have z10 := hbk.free 10; simp [FB.cells, HCH.out] at y10; have hfl := FbAt.flush (HA.out.at_.drewN 1) HCO.out HRR.out HEN.out (by rw [HCH.out]; exact hg2) own2; have HFL := Lib.hid hfl; clear own2 hg2 hgr2 hsp2 hbk hfl))
        all_goals
          obtain ⟨w3, hw3⟩ : ∃ w3, w2.setCell ⟨k, 10, none⟩ (.slice A2 (cl.length + 1) c2) = w3 := ⟨_, rfl⟩
          obtain ⟨f3, hf3⟩ : ∃ f3 : FB, { f' with v := v', hl := hl', hd := hd', chs := .slice A2 (cl.length + 1) c2 } = f3 := ⟨_, rfl⟩
          obtain ⟨n3, hn3⟩ : ∃ n3, b.length = n3 := ⟨_, rfl⟩
          have hfl := HFL.out
          rw [hw3, hf3, hn3] at hfl
          have t12 : Touch (fun b => base ≤ b) wr w3 := Touch.undrewN (n := 1) hfl.2.2
          have HF3 := Lib.hid hfl
          have K3 := Lib.hid (show Kept f f3 ∧ f3.last = f.last ∧ f3.len = f.len ∧ f3.cnt = f'.cnt ∧ f3.next = f'.next from by rw [← hf3]; exact ⟨⟨HA.out.kept.rt, HA.out.kept.base, HA.out.kept.ref⟩, HA.out.last, HA.out.len, rfl, rfl⟩)
          rw [hw3]
          clear hfl HFL hf3 hw3 hn3 y10 z10 d10 d10a e10
          go_wp2_with fail
          refine (add_fb base k 0 n3 f3 (S ++ List.replicate j 0) D w3 HF3.out.1 (by rw [List.length_append, List.length_replicate]; omega)).mono ?_
          rintro v w2 ⟨rfl, v2, hl2, hd2, h2, t2⟩
          obtain ⟨f2, hf2⟩ : ∃ f2 : FB, { f3 with v := v2, hl := hl2, hd := hd2 } = f2 := ⟨_, rfl⟩
          have k2 : Kept f f2 := by rw [← hf2]; exact ⟨K3.out.1.rt, K3.out.1.base, K3.out.1.ref⟩
          have l2 : f2.last = f.last ∧ f2.len = f.len ∧ f2.cnt = f'.cnt ∧ f2.next = f'.next := by rw [← hf2]; exact ⟨K3.out.2.1, K3.out.2.2.1, K3.out.2.2.2.1, K3.out.2.2.2.2⟩
          rw [hf2] at h2
          have x5 := h2.blk.cell 5
          have x4 := h2.blk.cell 4
          have g5 := h2.blk.free 5
          have g4 := h2.blk.free 4
          simp [FB.cells, l2.2.2.1, l2.2.2.2] at x5 x4
          have e0 := HX.out
          rw [e0.2] at x4
          have e1 : f'.cnt = f.cnt + j := HA.out.cnt
          have e2 := HC.out
          obtain ⟨cn, hcn⟩ : ∃ cn, f'.cnt = cn := ⟨_, rfl⟩
          rw [hcn] at x5
          have hcw : IntKind.u16.wrap ((cn : Int) + 1) = ((cn + 1 : Nat) : Int) := by rw [IntKind.wrap_u16]; omega
          obtain ⟨Y, hY⟩ : ∃ Y, (nq + (j + 1)) % 65536 = Y := ⟨_, rfl⟩
          have hxw : IntKind.u16.wrap ((X : Int) + 1) = (Y : Int) := by rw [IntKind.wrap_u16]; omega
          have h3 := h2.set (f' := { f2 with cnt := cn + 1 }) 5 (.int .u16 ((cn + 1 : Nat) : Int)) (by simp [FB.cells]) rfl rfl rfl rfl
          have h4 := h3.set (f' := { f2 with cnt := cn + 1, next := Y }) 4 (.int .u16 (Y : Int)) (by simp [FB.cells]) rfl rfl rfl rfl
          have hlo := h2.lo
          have t4 := (((HA.out.touch.trans t12 fun _ _ h => h).trans t2 fun _ _ h => h).setCell (p := ⟨k, 5, none⟩) (fun _ => hlo) (.int .u16 ((cn + 1 : Nat) : Int))).setCell (p := ⟨k, 4, none⟩) (fun _ => hlo) (.int .u16 (Y : Int))
          have hnew : AddIn base k f S D w (j + 1) ((w2.setCell ⟨k, 5, none⟩ (.int .u16 ((cn + 1 : Nat) : Int))).setCell ⟨k, 4, none⟩ (.int .u16 (Y : Int))) { f2 with cnt := cn + 1, next := Y } (n3 + 1) :=
            ⟨by rw [List.replicate_succ', ← List.append_assoc]; exact h4, by simp only; omega, ⟨k2.rt, k2.base, k2.ref⟩, l2.1, l2.2.1, t4⟩
          have y4 : ((w2.setCell ⟨k, 5, none⟩ (.int .u16 ((cn + 1 : Nat) : Int))).setCell ⟨k, 4, none⟩ (.int .u16 (Y : Int))).cell? ⟨k, 4, none⟩ = some (.int .u16 (Y : Int)) := by
            have := hnew.at_.blk.cell 4
            simpa [FB.cells] using this
          have HNEW := Lib.hid (And.intro hnew y4)
          have HY := Lib.hid hY
          have hcw2 : IntKind.u16.wrap ((cn : Int) + 1) = (cn : Int) + 1 := by rw [hcw]; omega
          have hcs : ((cn + 1 : Nat) : Int) = (cn : Int) + 1 := by omega
          rw [hcs] at HNEW
          clear hcw hcs h2 h3 h4 t4 hnew y4 hY k2 hf2 t2 l2 e0 e1 e2 hcn
          go_wp2_with fail
          obtain ⟨hnew, y4⟩ := HNEW.out
          refine ⟨⟨j + 1, _, _, Y, by omega, y4, ⟨HY.out.symm, rfl⟩, hnew⟩, ?_⟩
          rw [cellN_of y4, cellN_of e4]
          have := HX.out
          have := HY.out
          have := HSQ.out
          omega
    · obtain rfl : j = J := by omega
      have hXs : X = sq := by
        have := HX.out.1
        have := HSQ.out
        omega
      subst hXs
      have e6 := HA.out.at_.blk.cell 6
      have g6 := HA.out.at_.blk.free 6
      simp [FB.cells, HA.out.len] at e6
      obtain ⟨ln, hln⟩ : ∃ ln, f.len = ln := ⟨_, rfl⟩
      rw [hln] at e6
      have hln1 : 0 ≤ ln ∧ ln ≤ 6000 := by have := HLN.out; omega
      obtain ⟨hln1, hln2⟩ := hln1
      have HLL := Lib.hid hln
      clear hln
      have h1 := HA.out.at_.set (f' := { f' with len := ln + 2 }) 6 (.int .i64 (ln + 2)) (by simp [FB.cells]) rfl rfl rfl rfl
      obtain ⟨f1, hf1⟩ : ∃ f1 : FB, { f' with len := ln + 2 } = f1 := ⟨_, rfl⟩
      obtain ⟨w1', hw1⟩ : ∃ w1', wr.setCell ⟨k, 6, none⟩ (.int .i64 (ln + 2)) = w1' := ⟨_, rfl⟩
      rw [hf1, hw1] at h1
      have K1 := Lib.hid (show Kept f f1 ∧ f1.last = f.last ∧ f1.len = f.len + 2 ∧ f1.cnt = f'.cnt ∧ f1.next = f'.next from by rw [← hf1, HLL.out]; exact ⟨⟨HA.out.kept.rt, HA.out.kept.base, HA.out.kept.ref⟩, HA.out.last, rfl, rfl, rfl⟩)
      have T1 := Lib.hid (show Touch (fun b => base ≤ b) w w1' from by rw [← hw1]; exact HA.out.touch.setCell (p := ⟨k, 6, none⟩) (fun _ => HA.out.at_.lo) _)
      have H1 := Lib.hid h1
      have HW1 := Lib.hid hw1
      clear h1 hf1 hw1
      go_upto_region 21 with fail
      rw [HW1.out]
      go_wp2_with fail
      refine (canAdd_fb base k 2 n' f1 (S ++ List.replicate j 0) D w1' H1.out (by rw [List.length_append, List.length_replicate]; omega)).mono ?_
      rintro v w' ⟨⟨β, rfl, hβ⟩, hw⟩
      obtain rfl := hw.symm
      clear hw
      have HB := Lib.hid hβ
      clear hβ
      cases β with
      | true =>
        have TT := T1
        go_wp2_with fail
        refine (add_fb base k 2 n' f1 (S ++ List.replicate j 0) D w1' H1.out (by rw [List.length_append, List.length_replicate]; omega)).mono ?_
        rintro v w2 ⟨rfl, v2, hl2, hd2, h2, t2⟩
        obtain ⟨f2, hf2⟩ : ∃ f2 : FB, { f1 with v := v2, hl := hl2, hd := hd2 } = f2 := ⟨_, rfl⟩
        have k2 : Kept f f2 ∧ f2.last = f.last ∧ f2.len = f.len + 2 ∧ f2.cnt = f'.cnt ∧ f2.next = f'.next := by rw [← hf2]; exact ⟨⟨K1.out.1.rt, K1.out.1.base, K1.out.1.ref⟩, K1.out.2⟩
        rw [hf2] at h2
        have tt := (TT.out.trans t2 fun _ _ h => h)
        obtain ⟨ds2, cl2, ps2, T2, hcore2, hrr2⟩ := h2.core
        obtain ⟨A5, cc5, hdls, _, _⟩ := hcore2.dls.shape
        have e11 := h2.blk.cell 11
        simp [FB.cells, hdls] at e11
        have hTl : T2.length = D.length := by rw [← hrr2.2.2.1]; simp
        have hb5 : T2.length + 1 ≤ maxLen := by simp only [maxLen]; have := HDL.out; omega
        have hb6 : (T2.length + 1) * 16 ≤ 140737488355328 := by have := HDL.out; omega
        have H2 := Lib.hid h2
        have HC2 := Lib.hid hcore2
        have HR2 := Lib.hid hrr2
        have HD2 := Lib.hid hdls
        have K2 := Lib.hid k2
        have TT2 := Lib.hid tt
        clear h2 hcore2 hrr2 hdls k2 tt hf2 t2 hTl
        go_upto_region 25 with (at_builtin; (refine wpList_append_au _ rfl (.tmp 124) (.tmp 128) 200 200 rfl base 173 i1 _ 2 16 Try.underlying200 hi1 hy0 hy1 hy2 rfl (by decide) (.slice A5 T2.length cc5) T2.length (tcells T2) rfl (by have h := HC2.out.dls; rw [HD2.out] at h; exact h.alloc _) (.slice (some ⟨w2.heap.size, 0, none⟩) 1 1) 1 [.int .u16 (2 : Nat), .int .i64 dl] rfl (Src.ofSlice _ Try.underlying200 ⟨w2.heap.size, 0, none⟩ 1 1 _ rfl (World.news_of_block (cs := #[.int .u16 (2 : Nat), .int .i64 dl]) (t := 173) (fr := (0, 0)) (heap_alloc_new w2 _)) (by simp [Value.oneCell'])) hb5 hb6 (by have h := H2.out.blk.lt; have h2 := H2.out.lo; simp; omega) ?_; intro A7 c7 w7 own7 hg7 hgr7 hsp7; have hbk := time_blk H2.out HC2.out (by rw [HD2.out]; exact hg7); have y11 := hbk.cell 11; have z11 := hbk.free 11; simp [FB.cells, HD2.out] at y11; have hfl7 := FbAt.time H2.out HC2.out HR2.out (by rw [HD2.out]; exact hg7) own7; have HFL7 := Lib.hid hfl7; clear own7 hg7 hgr7 hsp7 hbk hfl7))
        obtain ⟨W7, hW7⟩ : ∃ W7, w7.setCell ⟨k, 11, none⟩ (.slice A7 (T2.length + 1) c7) = W7 := ⟨_, rfl⟩
        obtain ⟨f7, hf7⟩ : ∃ f7 : FB, { f2 with dls := .slice A7 (T2.length + 1) c7 } = f7 := ⟨_, rfl⟩
        have hfl7 := HFL7.out
        rw [hW7, hf7] at hfl7
        rw [hW7]
        have K7 := Lib.hid (show Kept f f7 ∧ f7.last = f.last ∧ f7.len = f.len + 2 ∧ f7.cnt = f'.cnt ∧ f7.next = f'.next from by rw [← hf7]; exact ⟨⟨K2.out.1.rt, K2.out.1.base, K2.out.1.ref⟩, K2.out.2⟩)
        obtain ⟨cn, hcn⟩ : ∃ cn, f'.cnt = cn := ⟨_, rfl⟩
        have hcnb : cn ≤ 4000 := by have := HA.out.cnt; have := HC.out; omega
        have y3 := hfl7.1.blk.cell 3
        have y4 := hfl7.1.blk.cell 4
        have y5 := hfl7.1.blk.cell 5
        have z3 := hfl7.1.blk.free 3
        have z4 := hfl7.1.blk.free 4
        have z5 := hfl7.1.blk.free 5
        simp [FB.cells, K7.out.2.1, K7.out.2.2.2.1, K7.out.2.2.2.2, HLE.out, hcn, HX.out.2] at y3 y4 y5
        have hcw2 : IntKind.u16.wrap ((cn : Int) + 1) = (cn : Int) + 1 := by rw [IntKind.wrap_u16]; omega
        obtain ⟨Y, hY⟩ : ∃ Y, (nq + j + 1) % 65536 = Y := ⟨_, rfl⟩
        have hxw : IntKind.u16.wrap ((X : Int) + 1) = (Y : Int) := by have := HX.out.1; rw [IntKind.wrap_u16]; omega
        have hLd : L + dl = t := by omega
        have r3 := hfl7.1.set (f' := { f7 with last := t }) 3 (.int .i64 t) (by simp [FB.cells]) rfl rfl rfl rfl
        have r4 := r3.set (f' := { f7 with last := t, cnt := cn + 1 }) 5 (.int .u16 ((cn : Int) + 1)) (by simp [FB.cells]) rfl rfl rfl rfl
        have r5 := r4.set (f' := { f7 with last := t, cnt := cn + 1, next := Y }) 4 (.int .u16 (Y : Int)) (by simp [FB.cells]) rfl rfl rfl rfl
        have hlo := r5.lo
        have r6 := (((TT2.out.trans hfl7.2 fun _ _ h => h).setCell (p := ⟨k, 3, none⟩) (fun _ => hlo) (.int .i64 t)).setCell (p := ⟨k, 5, none⟩) (fun _ => hlo) (.int .u16 ((cn : Int) + 1))).setCell (p := ⟨k, 4, none⟩) (fun _ => hlo) (.int .u16 (Y : Int))
        have hsym : symOf dl = 2 := by unfold symOf; rw [if_neg (by omega)]
        have hfin : Recv base k f S D j nq t dl w (((W7.setCell ⟨k, 3, none⟩ (.int .i64 t)).setCell ⟨k, 5, none⟩ (.int .u16 ((cn : Int) + 1))).setCell ⟨k, 4, none⟩ (.int .u16 (Y : Int))) { f7 with last := t, cnt := cn + 1, next := Y } (n' + 1) :=
          ⟨by rw [hsym]; exact r5, by have := HA.out.cnt; simp only; omega, ⟨K7.out.1.rt, K7.out.1.base, K7.out.1.ref⟩, rfl, by have := K7.out.2.2.1; have := HLL.out; simp only; omega, hY.symm, r6⟩
        have HFIN := Lib.hid hfin
        clear hfl7 r3 r4 r5 r6 hfin hf7 hW7 hY hcn HFL7
        go_wp2_with fail
        go_ret
        exact ⟨rfl, _, _, HFIN.out⟩
      | false =>
        obtain ⟨ds, cl, ps, T, hcore, hr1, hr2, hr3, hr4, hr5⟩ := (H1.out.drewN 1).core
        obtain ⟨A, cc, hchs, _, _⟩ := hcore.chs.shape
        have e10 := H1.out.blk.cell 10
        simp [FB.cells, hchs] at e10
        have hb7 := HB.out rfl
        have hbl : S.length + j < 3000 := by omega
        have hSl : (S ++ List.replicate j 0).length = S.length + j := by rw [List.length_append, List.length_replicate]
        have hb1 : cl.length + 1 ≤ maxLen := by simp only [maxLen]; omega
        have hb2 : (cl.length + 1) * 16 ≤ 140737488355328 := by omega
        have HENC := Lib.hid (encode_any k ds.length base f1 ds w1'.drew (H1.out.drewN 1).blk hcore.own (by omega) (by omega) hr5 (by have := H1.out.lo; have := H1.out.blk.lt; simp; omega))
        have HCO := Lib.hid hcore
        have HRR := Lib.hid (And.intro hr1 (And.intro hr2 (And.intro hr3 hr4)))
        have HCH := Lib.hid hchs
        have hkb := H1.out.lo
        clear hcore hr1 hr2 hr3 hr4 hr5 hchs hSl hb7
        go_upto_region 22 with fail
        go_region_law (first
          | (go_simp; go_at_call 104; refine HENC.out.mono ?_; rintro v w1 ⟨c, a, b, v', hl', hd', rfl, henc⟩; obtain ⟨ty, q, rfl⟩ := henc.form; have d10 := henc.blk.cell 10; simp [FB.cells, HCH.out] at d10; have d10a : (w1.alloc (.cells #[.iface ty (.pointer (some ⟨q, 0, none⟩))] 187)).cell? ⟨k, 10, none⟩ = some (.slice A cl.length cc) := (((henc.blk.alloc _).cell 10).trans (by simp [FB.cells, HCH.out])); have HEN := Lib.hid henc; clear henc)
          | (refine step_append_au _ rfl (.tmp 106) (.tmp 111) 166 166 rfl base 187 i0 _ 1 16 Try.underlying166 hi0 hz0 hz1 hz2 rfl (by decide) (.slice A cl.length cc) cl.length cl ?_ (by have h := (HCO.out.encode (H1.out.drewN 1).blk HEN.out).chs; rw [HCH.out] at h; exact h.alloc _) (.slice (some ⟨w1.heap.size, 0, none⟩) 1 1) 1 [.iface ty (.pointer (some ⟨q, 0, none⟩))] ?_ (Src.ofSlice _ Try.underlying166 ⟨w1.heap.size, 0, none⟩ 1 1 _ rfl (World.news_of_block (cs := #[.iface ty (.pointer (some ⟨q, 0, none⟩))]) (t := 187) (fr := (0, 0)) (heap_alloc_new w1 _)) HEN.out.one) hb1 hb2 (by have h := HEN.out.touch.size; have h2 := H1.out.blk.lt; simp at h ⊢; omega) ?_; go_simp; go_simp; intro A2 c2 w2 own2 hg2 hgr2 hsp2; have hbk := flush_blk (H1.out.drewN 1) HCO.out HEN.out (by rw [HCH.out]; exact hg2); have y10 := hbk.cell 10; have z10 := hbk.free 10; simp [FB.cells, HCH.out] at y10; have hfl := FbAt.flush (H1.out.drewN 1) HCO.out HRR.out HEN.out (by rw [HCH.out]; exact hg2) own2; have HFL := Lib.hid hfl; clear own2 hg2 hgr2 hsp2 hbk hfl))
        all_goals
          obtain ⟨w3, hw3⟩ : ∃ w3, w2.setCell ⟨k, 10, none⟩ (.slice A2 (cl.length + 1) c2) = w3 := ⟨_, rfl⟩
          obtain ⟨f3, hf3⟩ : ∃ f3 : FB, { f1 with v := v', hl := hl', hd := hd', chs := .slice A2 (cl.length + 1) c2 } = f3 := ⟨_, rfl⟩
          obtain ⟨n3, hn3⟩ : ∃ n3, b.length = n3 := ⟨_, rfl⟩
          have hfl := HFL.out
          rw [hw3, hf3, hn3] at hfl
          have t12 : Touch (fun b => base ≤ b) w1' w3 := Touch.undrewN (n := 1) hfl.2.2
          have HF3 := Lib.hid hfl
          have H3 := Lib.hid hfl.1
          have TT := Lib.hid (T1.out.trans t12 fun _ _ h => h)
          have K3 := Lib.hid (show Kept f f3 ∧ f3.last = f.last ∧ f3.len = f.len + 2 ∧ f3.cnt = f'.cnt ∧ f3.next = f'.next from by rw [← hf3]; exact ⟨⟨K1.out.1.rt, K1.out.1.base, K1.out.1.ref⟩, K1.out.2⟩)
          rw [hw3]
          clear hfl HFL hf3 hw3 hn3 y10 z10 d10 d10a e10 t12 HF3
          go_wp2_with fail
          refine (add_fb base k 2 n3 f3 (S ++ List.replicate j 0) D w3 H3.out (by rw [List.length_append, List.length_replicate]; omega)).mono ?_
          rintro v w2 ⟨rfl, v2, hl2, hd2, h2, t2⟩
          obtain ⟨f2, hf2⟩ : ∃ f2 : FB, { f3 with v := v2, hl := hl2, hd := hd2 } = f2 := ⟨_, rfl⟩
          have k2 : Kept f f2 ∧ f2.last = f.last ∧ f2.len = f.len + 2 ∧ f2.cnt = f'.cnt ∧ f2.next = f'.next := by rw [← hf2]; exact ⟨⟨K3.out.1.rt, K3.out.1.base, K3.out.1.ref⟩, K3.out.2⟩
          rw [hf2] at h2
          have tt := (TT.out.trans t2 fun _ _ h => h)
          obtain ⟨ds2, cl2, ps2, T2, hcore2, hrr2⟩ := h2.core
          obtain ⟨A5, cc5, hdls, _, _⟩ := hcore2.dls.shape
          have e11 := h2.blk.cell 11
          simp [FB.cells, hdls] at e11
          have hTl : T2.length = D.length := by rw [← hrr2.2.2.1]; simp
          have hb5 : T2.length + 1 ≤ maxLen := by simp only [maxLen]; have := HDL.out; omega
          have hb6 : (T2.length + 1) * 16 ≤ 140737488355328 := by have := HDL.out; omega
          have H2 := Lib.hid h2
          have HC2 := Lib.hid hcore2
          have HR2 := Lib.hid hrr2
          have HD2 := Lib.hid hdls
          have K2 := Lib.hid k2
          have TT2 := Lib.hid tt
          clear h2 hcore2 hrr2 hdls k2 tt hf2 t2 hTl
          go_upto_region 25 with (at_builtin; (refine wpList_append_au _ rfl (.tmp 124) (.tmp 128) 200 200 rfl base 173 i1 _ 2 16 Try.underlying200 hi1 hy0 hy1 hy2 rfl (by decide) (.slice A5 T2.length cc5) T2.length (tcells T2) rfl (by have h := HC2.out.dls; rw [HD2.out] at h; exact h.alloc _) (.slice (some ⟨w2.heap.size, 0, none⟩) 1 1) 1 [.int .u16 (2 : Nat), .int .i64 dl] rfl (Src.ofSlice _ Try.underlying200 ⟨w2.heap.size, 0, none⟩ 1 1 _ rfl (World.news_of_block (cs := #[.int .u16 (2 : Nat), .int .i64 dl]) (t := 173) (fr := (0, 0)) (heap_alloc_new w2 _)) (by simp [Value.oneCell'])) hb5 hb6 (by have h := H2.out.blk.lt; have h2 := H2.out.lo; simp; omega) ?_; intro A7 c7 w7 own7 hg7 hgr7 hsp7; have hbk := time_blk H2.out HC2.out (by rw [HD2.out]; exact hg7); have y11 := hbk.cell 11; have z11 := hbk.free 11; simp [FB.cells, HD2.out] at y11; have hfl7 := FbAt.time H2.out HC2.out HR2.out (by rw [HD2.out]; exact hg7) own7; have HFL7 := Lib.hid hfl7; clear own7 hg7 hgr7 hsp7 hbk hfl7))
          obtain ⟨W7, hW7⟩ : ∃ W7, w7.setCell ⟨k, 11, none⟩ (.slice A7 (T2.length + 1) c7) = W7 := ⟨_, rfl⟩
          obtain ⟨f7, hf7⟩ : ∃ f7 : FB, { f2 with dls := .slice A7 (T2.length + 1) c7 } = f7 := ⟨_, rfl⟩
          have hfl7 := HFL7.out
          rw [hW7, hf7] at hfl7
          rw [hW7]
          have K7 := Lib.hid (show Kept f f7 ∧ f7.last = f.last ∧ f7.len = f.len + 2 ∧ f7.cnt = f'.cnt ∧ f7.next = f'.next from by rw [← hf7]; exact ⟨⟨K2.out.1.rt, K2.out.1.base, K2.out.1.ref⟩, K2.out.2⟩)
          obtain ⟨cn, hcn⟩ : ∃ cn, f'.cnt = cn := ⟨_, rfl⟩
          have hcnb : cn ≤ 4000 := by have := HA.out.cnt; have := HC.out; omega
          have y3 := hfl7.1.blk.cell 3
          have y4 := hfl7.1.blk.cell 4
          have y5 := hfl7.1.blk.cell 5
          have z3 := hfl7.1.blk.free 3
          have z4 := hfl7.1.blk.free 4
          have z5 := hfl7.1.blk.free 5
          simp [FB.cells, K7.out.2.1, K7.out.2.2.2.1, K7.out.2.2.2.2, HLE.out, hcn, HX.out.2] at y3 y4 y5
          have hcw2 : IntKind.u16.wrap ((cn : Int) + 1) = (cn : Int) + 1 := by rw [IntKind.wrap_u16]; omega
          obtain ⟨Y, hY⟩ : ∃ Y, (nq + j + 1) % 65536 = Y := ⟨_, rfl⟩
          have hxw : IntKind.u16.wrap ((X : Int) + 1) = (Y : Int) := by have := HX.out.1; rw [IntKind.wrap_u16]; omega
          have hLd : L + dl = t := by omega
          have r3 := hfl7.1.set (f' := { f7 with last := t }) 3 (.int .i64 t) (by simp [FB.cells]) rfl rfl rfl rfl
          have r4 := r3.set (f' := { f7 with last := t, cnt := cn + 1 }) 5 (.int .u16 ((cn : Int) + 1)) (by simp [FB.cells]) rfl rfl rfl rfl
          have r5 := r4.set (f' := { f7 with last := t, cnt := cn + 1, next := Y }) 4 (.int .u16 (Y : Int)) (by simp [FB.cells]) rfl rfl rfl rfl
          have hlo := r5.lo
          have r6 := (((TT2.out.trans hfl7.2 fun _ _ h => h).setCell (p := ⟨k, 3, none⟩) (fun _ => hlo) (.int .i64 t)).setCell (p := ⟨k, 5, none⟩) (fun _ => hlo) (.int .u16 ((cn : Int) + 1))).setCell (p := ⟨k, 4, none⟩) (fun _ => hlo) (.int .u16 (Y : Int))
          have hsym : symOf dl = 2 := by unfold symOf; rw [if_neg (by omega)]
          have hfin : Recv base k f S D j nq t dl w (((W7.setCell ⟨k, 3, none⟩ (.int .i64 t)).setCell ⟨k, 5, none⟩ (.int .u16 ((cn : Int) + 1))).setCell ⟨k, 4, none⟩ (.int .u16 (Y : Int))) { f7 with last := t, cnt := cn + 1, next := Y } (n3 + 1) :=
            ⟨by rw [hsym]; exact r5, by have := HA.out.cnt; simp only; omega, ⟨K7.out.1.rt, K7.out.1.base, K7.out.1.ref⟩, rfl, by have := K7.out.2.2.1; have := HLL.out; simp only; omega, hY.symm, r6⟩
          have HFIN := Lib.hid hfin
          clear hfl7 r3 r4 r5 r6 hfin hf7 hW7 hY hcn HFL7
          go_wp2_with fail
          go_ret
          exact ⟨rfl, _, _, HFIN.out⟩

/-- Added, whatever the time is, if it fits. -/
theorem addRecv_yes (base k n nq J : Nat) (f : FB) (S : List Nat) (D : List Int) (t dl e : Int) (w : World) (hF : FbAt w base k f S D n) (hdl : t - f.last = dl) (he : dl = 250 * e)
    (hfit : -32768 ≤ e ∧ e ≤ 32767) (hL : -9000000000000000 < f.last ∧ f.last < 9000000000000000) (hnext : f.next = nq % 65536) (hJ : J < 256) (hS : S.length + J < 3000) (hcnt : f.cnt = S.length) (hlen : 0 ≤ f.len ∧ f.len ≤ 2 * (S.length : Int)) (hD : D.length < 3000) :
    Calls Try.prog 103 #[.pointer (some ⟨k, 0, none⟩), .int .u16 (((nq + J) % 65536 : Nat) : Int), .int .i64 t] w fun v w' => v = .returned (.bool true) ∧ ∃ f' n', Recv base k f S D J nq t dl w w' f' n' := by
  by_cases h : e < 0
  · exact addRecv_neg base k n nq J f S D t dl e w hF hdl he ⟨hfit.1, h⟩ hL hnext hJ hS hcnt hlen hD
  · exact addRecv_pos base k n nq J f S D t dl e w hF hdl he ⟨by omega, hfit.2⟩ hL hnext hJ hS hcnt hlen hD
end Go.Proofs.Ytlkmmkphpiamcaa
