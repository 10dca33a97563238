/-
  The walk of FnFeedback. Condition: the slices read as numbers. By an AI agent.
-/
import Derived.Test.YtlkmmkphpiamcaaBh
import Derived.Test.YtlkmmkphpiamcaaBg
import Derived.Test.YtlkmmkphpiamcaaBe
import Derived.Test.YtlkmmkphpiamcaaBl
import Derived.Test.YtlkmmkphpiamcaaE
namespace Go.Proofs.Ytlkmmkphpiamcaa
open Go.RowKit

theorem OwnsAt.litc {w : World} {base : Nat} {e : TypeId} {size n c : Nat} {A : Option Addr} {xs : List Value} (h : OwnsAt w base e size (.slice A n c) n xs) (hn : 0 < n) :
    ∃ g off, A = some ⟨g, off, none⟩ ∧ g < w.heap.size ∧ base ≤ g ∧ ∀ j u, xs[j]? = some u → w.cell? ⟨g, off + j, none⟩ = some u := h.lits hn
/-- A row of ints, at a later world. -/
theorem OwnsAt.elt {w w' : World} {base : Nat} {e : TypeId} {n c : Nat} {A : Option Addr} {xs : List Value} (h : OwnsAt w base e 1 (.slice A n c) n xs) (hb : Below w.heap.size w w') {j : Nat} (hj : j < n) : ∃ ad u, A = some ad ∧ xs[j]? = some u ∧ w'.cell? (ad.add j) = some u := by
  obtain ⟨ad, rfl, hlt, _, hc⟩ := h.cells (by omega)
  have hl : j < xs.length := by have := h.1; omega
  have hu : xs[j]? = some xs[j] := List.getElem?_eq_getElem hl
  exact ⟨ad, _, rfl, hu, (hb.cell (p := ad.add j) (by rw [addr_block]; exact hlt)).trans (hc j _ hu)⟩

set_option maxRecDepth 1000000 in
set_option maxHeartbeats 4000000 in
theorem fnFeedback_any (sd md : Int) (n c m d : Nat) (A Q : Option Addr) (ls ts : List Int) (w : World) (hr : Reads w w.heap.size 1 A n (ls.map (Value.int .u16))) (hq : Reads w w.heap.size 1 Q m (ts.map (Value.int .i64))) (hls : ∀ x ∈ ls, 0 ≤ x ∧ x ≤ 65535)
    (hn : n ≤ 9223372036854775807) (hm : m ≤ 9223372036854775807) (hnc : n ≤ c) (hmd : m ≤ d) : Calls Try.prog 8 #[.int .u32 sd, .int .u32 md, .slice A n c, .slice Q m d] w (Holds w) := by
  have hlen : ls.length = n := by simpa using hr.1
  have HR := Lib.hid hr
  have HQ : Hid (Reads w w.heap.size 1 Q m (i64s ts)) := hq
  have HLS := Lib.hid hls
  have HL := Lib.hid hlen
  clear hr hq hls hlen
  by_cases hbig : 2147483647 < n
  · go_enter Try.func8, Try.ntmps8
    go_wp2_with fail
    go_ret
    exact ⟨rfl, Below.refl _ _⟩
  have hn2 : n ≤ 2147483647 := by omega
  clear hbig
  by_cases hbig : 2147483647 < m
  · go_enter Try.func8, Try.ntmps8
    go_wp2_with fail
    go_ret
    exact ⟨rfl, Below.refl _ _⟩
  have hm2 : m ≤ 2147483647 := by omega
  clear hbig
  go_enter Try.func8, Try.ntmps8
  go_wp2_with fail
  refine (line_cap n c A ls w HR.out hn2 HLS.out).mono ?_
  rintro v w1 ⟨hb1, rfl | ⟨A1, c1, outs, rfl, hr1, hst, hnc1⟩⟩
  · have HB1 := Lib.hid hb1
    clear hb1
    go_wp2_with fail
    refine (works_true w1).mono ?_
    rintro e w2 ⟨rfl, hb2⟩
    have HB2 := Lib.hid hb2
    clear hb2
    go_wp2_with fail
    go_ret
    exact ⟨rfl, HB1.out.trans (HB2.out.mono HB1.out.size)⟩
  have HB1 := Lib.hid hb1
  by_cases h100 : 100 < n
  · clear hb1
    go_wp2_with fail
    refine (works_true w1).mono ?_
    rintro e w2 ⟨rfl, hb2⟩
    have HB2 := Lib.hid hb2
    clear hb2
    go_wp2_with fail
    go_ret
    exact ⟨rfl, HB1.out.trans (HB2.out.mono HB1.out.size)⟩
  obtain ⟨xs, rfl, hxl, hx4, hmod, hx0⟩ := line_nat hst HLS.out (by rw [HL.out]; omega)
  have hI : Reads w1 w1.heap.size 1 A1 n (I64n xs) := by
    have e : I64n xs = (xs.map fun q : Nat => (q : Int)).map (Value.int .i64) := by simp [I64n]
    rw [e]
    exact hr1
  have HSF := Lib.hid (sfb_any n c1 m d w1.heap.size A1 Q xs ts w1 hI ((HQ.out.below hb1).more hb1.size) (Nat.le_refl _) (by omega) hnc1 hm (fun x hx => by have := hx4 x hx; omega))
  have HX := Lib.hid (And.intro hxl (And.intro hx4 (And.intro hmod hx0)))
  clear hb1 hr1 hst hI hxl hx4 hmod hx0
  go_wp2_with fail
  refine HSF.out.mono ?_
  rintro v w2 ⟨hb2, bs, cn, rf, S1, n1, k1, S2, n2, k2, b, rfl, hT⟩
  have HB2 := Lib.hid (HB1.out.trans (hb2.mono HB1.out.size))
  have hsz2 := hb2.size
  clear hb2 HSF
  cases b with
  | false =>
    clear hT
    go_wp2_with fail
    refine (works_true _).mono ?_
    rintro e w3 ⟨rfl, hb3⟩
    have HB3 := Lib.hid hb3
    clear hb3
    go_wp2_with fail
    go_ret
    exact ⟨rfl, HB2.out.trans (((Below.refl w2.heap.size w2).alloc (Nat.le_refl _) _ |>.trans (HB3.out.mono (by simp))).mono (HB2.out.size))⟩
  | true =>
    obtain ⟨s, e, st, hT1, rfl, rfl, rfl, rfl, rfl, hS, hD⟩ := hT rfl
    clear hT
    have hT := hT1
    clear hT1
    have hmn : m = n := by
      have h1 := hT.len
      have h2 := HX.out.1
      have h3 := HL.out
      have h4 : ts.length = m := by simpa [i64s] using HQ.out.1
      omega
    subst hmn
    obtain ⟨W3, hW3⟩ : ∃ W3, w2.alloc (.cells #[.int .i64 ((s % 65536 : Nat) : Int), .int .i64 ((e - s : Nat) : Int), .int .u32 (recF (xs.zip ts) s / 64000), .slice S1 st.S.length k1, .slice S2 st.D.length k2] 68) = W3 := ⟨_, rfl⟩
    obtain ⟨wb, hwb⟩ : ∃ wb, w2.heap.size = wb := ⟨_, rfl⟩
    have hb3 : Below w.heap.size w W3 := by
      rw [← hW3]
      exact HB2.out.alloc HB2.out.size _
    have hbk : Blk W3 wb 68 #[.int .i64 ((s % 65536 : Nat) : Int), .int .i64 ((e - s : Nat) : Int), .int .u32 (recF (xs.zip ts) s / 64000), .slice S1 st.S.length k1, .slice S2 st.D.length k2] := by
      rw [← hW3, ← hwb]
      exact Blk.new w2 68 _
    have hS3 : OwnsAt W3 w1.heap.size 3 1 (.slice S1 st.S.length k1) st.S.length (is64 st.S) := by rw [← hW3]; exact hS.alloc _
    have hD3 : OwnsAt W3 w1.heap.size 2 1 (.slice S2 st.D.length k2) st.D.length (i64s st.D) := by rw [← hW3]; exact hD.alloc _
    have hxt : (xs.zip ts).length = m := by rw [List.length_zip, HX.out.1, HL.out, ← hT.len, HX.out.1, HL.out]; omega
    have HFB := Lib.hid (feedback_any sd md m c d s A Q (xs.zip ts) W3 (by rw [seqs_zip hT.len HX.out.1 HX.out.2.2.1]; exact (HR.out.below hb3).more hb3.size) (by rw [times_zip hT.len]; exact (HQ.out.below hb3).more hb3.size) hxt hnc hmd
      (hT.batch HX.out.2.1 HX.out.2.2.2 [xs.zip ts] (by simp) (fun bt hbt => by simp only [List.mem_singleton] at hbt; subst hbt; exact ⟨hT.pos, by omega⟩)))
    have HT := Lib.hid hT
    have HBK := Lib.hid hbk
    have HS := Lib.hid hS3
    have HD := Lib.hid hD3
    have HB3 := Lib.hid hb3
    have HW3 := Lib.hid hW3
    have HWB := Lib.hid hwb
    clear hT hbk hS3 hD3 hb3 hW3 hwb hS hD hxt
    obtain ⟨s16, hs16⟩ : ∃ x, s % 65536 = x := ⟨_, rfl⟩
    obtain ⟨es, hes⟩ : ∃ x, e - s = x := ⟨_, rfl⟩
    obtain ⟨rf, hrf⟩ : ∃ x, recF (xs.zip ts) s / 64000 = x := ⟨_, rfl⟩
    obtain ⟨n1, hn1⟩ : ∃ x, st.S.length = x := ⟨_, rfl⟩
    obtain ⟨n2, hn2'⟩ : ∃ x, st.D.length = x := ⟨_, rfl⟩
    have hn1e : n1 = es := by
      have h1 := foldSt_len _ _ _ _ HT.out.fold (by simp [st00])
      have h2 := HT.out.q
      simp only [st00, List.length_nil] at h1
      omega
    subst hn1e
    have hn1b : n1 ≤ 200 := by have h1 := HT.out.small; omega
    have hn2b : n2 ≤ 200 := by
      have h1 := foldSt_len _ _ _ _ HT.out.fold (by simp [st00])
      simp only [st00, List.length_nil] at h1
      omega
    have HRP : Hid (∀ rs, First sd md (xs.zip ts) rs → rs = [⟨sd, md, s16, rf, 0, st.S, st.D⟩]) := fun rs h => by
      have h1 := First.one HT.out h
      rw [hs16, hrf] at h1
      exact h1
    rw [hs16, hes, hrf, hn1, hn2'] at HW3 HBK
    rw [hn1] at HS
    rw [hn2'] at HD
    rw [hs16, hes, hrf, hn1, hn2']
    have HN1 := Lib.hid hn1
    have HN2 := Lib.hid hn2'
    clear hs16 hes hrf hn1 hn2'
    go_upto_region 7 with fail
    rw [HW3.out, HWB.out]
    go_wp2_with fail
    refine HFB.out.mono ?_
    rintro v w4 ⟨hb4, A4, c4, rs, rfl, hrep, hfirst, _⟩
    obtain rfl := HRP.out rs hfirst
    obtain ⟨tr, ht1, hown, hrow⟩ := hrep
    obtain ⟨r0, va, vb, rfl⟩ : ∃ r0 va vb, tr = [(r0, va, vb)] := by
      have hl := congrArg List.length ht1
      rw [List.length_map] at hl
      obtain ⟨⟨r0, va, vb⟩, rfl⟩ := List.length_eq_one_iff.1 hl
      exact ⟨r0, va, vb, rfl⟩
    simp only [List.map_cons, List.map_nil, List.cons.injEq, and_true] at ht1
    subst ht1
    have hrow0 := hrow _ (List.mem_singleton.2 rfl)
    obtain ⟨Aa, ka, rfl, _, _⟩ : ∃ Aa ka, va = .slice Aa n1 ka ∧ n1 ≤ ka ∧ ka ≤ maxLen := by
      have h := hrow0.S.shape
      simp only at h
      rw [HN1.out] at h
      exact h
    obtain ⟨Ab, kb, rfl, _, _⟩ : ∃ Ab kb, vb = .slice Ab n2 kb ∧ n2 ≤ kb ∧ kb ≤ maxLen := by
      have h := hrow0.D.shape
      simp only at h
      rw [HN2.out] at h
      exact h
    obtain ⟨g, off, rfl, hg4, _, hcell⟩ := hown.litc (by simp)
    have g0 := hcell 0 (.int .u32 sd) (by simp [rowsCells, rpCells])
    have g1 := hcell 1 (.int .u32 md) (by simp [rowsCells, rpCells])
    have g2 := hcell 2 (.int .i64 (s16 : Int)) (by simp [rowsCells, rpCells])
    have g3 := hcell 3 (.int .i64 (n1 : Int)) (by simp [rowsCells, rpCells, HN1.out])
    have g4 := hcell 4 (.int .u32 rf) (by simp [rowsCells, rpCells])
    have g5 := hcell 5 (.int .i64 0) (by simp [rowsCells, rpCells])
    have g6 := hcell 6 (.slice Aa n1 ka) (by simp [rowsCells, rpCells])
    have g7 := hcell 7 (.slice Ab n2 kb) (by simp [rowsCells, rpCells])
    rw [Nat.add_zero] at g0
    have hS4 := hrow0.S
    have hD4 := hrow0.D
    simp only at hS4 hD4
    rw [HN1.out] at hS4
    rw [HN2.out] at hD4
    have hbk4 := HBK.out.below hb4 HBK.out.lt
    obtain ⟨W5, hW5⟩ : ∃ W5, w4.alloc (.cells #[.int .u32 sd, .int .u32 md, .int .i64 (s16 : Int), .int .i64 (n1 : Int), .int .u32 rf, .int .i64 0, .slice Aa n1 ka, .slice Ab n2 kb] 74) = W5 := ⟨_, rfl⟩
    obtain ⟨rb, hrb⟩ : ∃ rb, w4.heap.size = rb := ⟨_, rfl⟩
    have hb5 : Below w4.heap.size w4 W5 := by rw [← hW5]; exact (Below.refl _ _).alloc (Nat.le_refl _) _
    have hbk5 : Blk W5 wb 68 #[.int .i64 (s16 : Int), .int .i64 (n1 : Int), .int .u32 rf, .slice S1 n1 k1, .slice S2 n2 k2] := hbk4.below hb5 hbk4.lt
    have hrk5 : Blk W5 rb 74 #[.int .u32 sd, .int .u32 md, .int .i64 (s16 : Int), .int .i64 (n1 : Int), .int .u32 rf, .int .i64 0, .slice Aa n1 ka, .slice Ab n2 kb] := by
      rw [← hW5, ← hrb]
      exact Blk.new w4 74 _
    have HW5 := Lib.hid hW5
    have HRB := Lib.hid hrb
    have HS4 := Lib.hid hS4
    have HD4 := Lib.hid hD4
    have HB4 := Lib.hid (And.intro hb4 hb5)
    have x0 := hbk5.cell 0
    have x1 := hbk5.cell 1
    have x2 := hbk5.cell 2
    have x3 := hbk5.cell 3
    have x4 := hbk5.cell 4
    have y0 := hrk5.cell 0
    have y1 := hrk5.cell 1
    have y2 := hrk5.cell 2
    have y3 := hrk5.cell 3
    have y4 := hrk5.cell 4
    have y5 := hrk5.cell 5
    have y6 := hrk5.cell 6
    have y7 := hrk5.cell 7
    simp at x0 x1 x2 x3 x4 y0 y1 y2 y3 y4 y5 y6 y7
    clear hown hrow hrow0 hcell hS4 hD4 hbk4 hW5 hrb hb4 hb5 hbk5 hrk5 hfirst
    go_upto_region 13 with fail
    rw [HW5.out, HRB.out]
    clear g0 g1 g2 g3 g4 g5 g6 g7
    go_wp2_with fail
    go_loopw [117] (fun u wr => ∃ j : Nat, j ≤ n1 ∧ u = .int .i64 (j : Int) ∧ Hid (wr = W5)) (fun u _ => n1 - (intOf u).toNat)
    case atStart => exact ⟨0, Nat.zero_le _, rfl, rfl⟩
    case round =>
      obtain ⟨j, hj, rfl, hw⟩ := hrel
      obtain rfl := hw.out
      clear hw
      by_cases hlt : j < n1
      · obtain ⟨a1, u1, rfl, hu1, z1⟩ := HS.out.elt (HB4.out.1.trans (HB4.out.2.mono HB4.out.1.size)) hlt
        obtain ⟨a2, u2, rfl, hu2, z2⟩ := HS4.out.elt HB4.out.2 hlt
        rw [hu1] at hu2
        injection hu2 with hu2
        subst hu2
        obtain ⟨x, hx⟩ : ∃ x, st.S[j]? = some x := ⟨_, List.getElem?_eq_getElem (by rw [HN1.out]; exact hlt)⟩
        rw [is64, List.getElem?_map, hx] at hu1
        simp only [Option.map_some, Option.some.injEq] at hu1
        subst hu1
        have hji : (j : Int) < (n1 : Int) := by omega
        clear hx
        go_wp2_with fail
        exact ⟨⟨j + 1, by omega, by go_num, (True.intro : True)⟩, by simp [intOf]; omega⟩
      · obtain rfl : j = n1 := by omega
        go_wp2_with fail
        go_loopw [133] (fun u wr2 => ∃ i : Nat, i ≤ n2 ∧ u = .int .i64 (i : Int) ∧ Hid (wr2 = wr)) (fun u _ => n2 - (intOf u).toNat)
        case atStart => exact ⟨0, Nat.zero_le _, rfl, rfl⟩
        case round =>
          obtain ⟨i, hi, rfl, hw⟩ := hrel
          obtain rfl := hw.out
          clear hw
          by_cases hlt2 : i < n2
          · obtain ⟨a1, u1, rfl, hu1, z1⟩ := HD.out.elt (HB4.out.1.trans (HB4.out.2.mono HB4.out.1.size)) hlt2
            obtain ⟨a2, u2, rfl, hu2, z2⟩ := HD4.out.elt HB4.out.2 hlt2
            rw [hu1] at hu2
            injection hu2 with hu2
            subst hu2
            obtain ⟨x, hx⟩ : ∃ x, st.D[i]? = some x := ⟨_, List.getElem?_eq_getElem (by rw [HN2.out]; exact hlt2)⟩
            rw [i64s, List.getElem?_map, hx] at hu1
            simp only [Option.map_some, Option.some.injEq] at hu1
            subst hu1
            have hji : (i : Int) < (n2 : Int) := by omega
            clear hx
            go_wp2_with fail
            exact ⟨⟨i + 1, by omega, by go_num, (True.intro : True)⟩, by simp [intOf]; omega⟩
          · go_wp2_with fail
            refine (works_true _).mono ?_
            rintro e9 w9 ⟨rfl, hb9⟩
            have HB9 := Lib.hid hb9
            clear hb9
            go_wp2_with fail
            go_ret
            have hall : Below w.heap.size w w9 := HB3.out.trans ((HB4.out.1.trans ((HB4.out.2.trans (HB9.out.mono HB4.out.2.size)).mono HB4.out.1.size)).mono HB3.out.size)
            exact ⟨rfl, hall⟩
end Go.Proofs.Ytlkmmkphpiamcaa
