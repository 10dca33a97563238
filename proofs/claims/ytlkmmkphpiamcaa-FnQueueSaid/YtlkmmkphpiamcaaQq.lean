/-
  The walk of FnQueue. Condition: the slice reads as calls. By an AI agent.
-/
import Derived.Test.YtlkmmkphpiamcaaQo
namespace Go.Proofs.Ytlkmmkphpiamcaa
open Go.RowKit

theorem info_u16n : (Try.prog.info? 33).map (fun i => (i.zero, i.size, i.bytes)) = some (some (.int .u16 0), 1, 2) := by kernel_rfl

/-- The third loop: the spec's queue. -/
def L3 (ss : List Stp) (k g : Nat) (w0 wr : World) : Prop := ∃ A c, SQ w0.heap.size wr g (qSt (ss.take k)) A c ∧ Below w0.heap.size w0 wr

theorem SQ.drew {base g c : Nat} {w : World} {l : List It} {A : Option Addr} (h : SQ base w g l A c) : SQ base w.drew g l A c := ⟨h.head, h.own.drew, h.low⟩
theorem SQ.drewN {base g c : Nat} {w : World} {l : List It} {A : Option Addr} (h : SQ base w g l A c) (k : Nat) : SQ base (w.drewN k) g l A c := ⟨h.head, h.own.drewN k, h.low⟩
theorem SQ.alloc {base g c : Nat} {w : World} {l : List It} {A : Option Addr} (h : SQ base w g l A c) (o : Obj) : SQ base (w.alloc o) g l A c := ⟨h.head.alloc o, h.own.alloc o, h.low⟩
theorem SQ.below {base g c : Nat} {w w' : World} {l : List It} {A : Option Addr} (h : SQ base w g l A c) (hb : Below w.heap.size w w') : SQ base w' g l A c :=
  ⟨h.head.below hb h.head.lt, h.own.keep fun g _ hv => hb.block g (h.own.lt g hv).2, h.low⟩
theorem below_undrew {B : Nat} {w w' : World} (h : Below B w.drew w') : Below B w w' := ⟨h.os, h.tape, h.output, h.size, h.block⟩
theorem below_undrewN {B k : Nat} {w w' : World} (h : Below B (w.drewN k) w') : Below B w w' := ⟨h.os, h.tape, h.output, h.size, h.block⟩
theorem L3.mk {ss : List Stp} {k g c : Nat} {w0 wr : World} {l : List It} {A : Option Addr} (h : SQ w0.heap.size wr g l A c) (hb : Below w0.heap.size w0 wr) (e : qSt (ss.take k) = l) : L3 ss k g w0 wr := by
  subst e
  exact ⟨A, c, h, hb⟩
theorem anL_at {l : List An} {j : Nat} {x : An} (h : l[j]? = some x) : (anL l)[j * 3]? = some (.bool x.ok) ∧ (anL l)[j * 3 + 1]? = some (.int .u16 x.seq) ∧ (anL l)[j * 3 + 2]? = some (.int .i64 x.n) := by
  induction l generalizing j with
  | nil => simp at h
  | cons y l ih =>
    cases j with
    | zero => simp at h; subst h; simp [anL]
    | succ j =>
      have := ih (j := j) (by simpa using h)
      have e : (j + 1) * 3 = j * 3 + 1 + 1 + 1 := by omega
      rw [e]
      simpa [anL] using this

set_option maxRecDepth 1000000 in
set_option maxHeartbeats 8000000 in
theorem fnQueue_any (n c : Nat) (A : Option Addr) (ts : List Raw) (w : World)
    (hr : RawsAt w w.heap.size A n ts) (hn : n ≤ 9223372036854775807) (hts : ∀ t ∈ ts, t.seq ≤ 65535 ∧ t.time ≤ 4294967295) :
    Calls Try.prog 6 #[.slice A n c] w (Holds w) := by
  obtain ⟨i0, hi0, hz0, hz1, hz2⟩ := info_parts info_u16n
  obtain ⟨j0, hj0, jz0, jz1, jz2⟩ := info_parts info_i64
  have HR := Lib.hid hr
  have HTS := Lib.hid hts
  have HLEN := Lib.hid hr.1
  clear hr hts
  by_cases hbig : 2147483647 < n
  · go_enter Try.func6, Try.ntmps6
    go_wp2_with fail
    go_ret
    exact ⟨rfl, Below.refl _ _⟩
  · have hn2 : n ≤ 2147483647 := by omega
    clear hbig
    go_enter Try.func6, Try.ntmps6
    go_wp2_with fail
    go_loopw [3, 20] (fun v i wr => ∃ k : Nat, k ≤ n ∧ i = .int .i64 k ∧ Hid (L1 ts k v w wr)) (fun _ i _ => n - (intOf i).toNat)
    case atStart => exact ⟨0, by omega, rfl, World.ownsRow_nil _ _ _ _, Below.refl _ _, by simp⟩
    case round =>
      obtain ⟨k, hk, rfl, hinv⟩ := hrel
      by_cases hlt : k < n
      · have hkl : k < ts.length := by rw [HLEN.out]; exact hlt
        obtain ⟨t, ht⟩ : ∃ t, ts[k]? = some t := ⟨_, List.getElem?_eq_getElem hkl⟩
        obtain ⟨ga, off, hA, hab, hcell⟩ := HR.out.2 (by omega)
        subst hA
        obtain ⟨y0, y1, y2⟩ := hcell k t ht
        have hb := hinv.out.2.1
        rw [← hb.cell (p := ⟨ga, off + k * 3, none⟩) hab] at y0
        rw [← hb.cell (p := ⟨ga, off + k * 3 + 1, none⟩) hab] at y1
        rw [← hb.cell (p := ⟨ga, off + k * 3 + 2, none⟩) hab] at y2
        have hwsz := hb.size
        have hgr : ga < wr.heap.size := by omega
        have hkn : (k : Int) < (n : Int) := by omega
        have hlen := rawPuts_len (ts.take k)
        have hlen2 : (ts.take k).length ≤ k := List.length_take_le _ _
        obtain ⟨m, hm⟩ : ∃ m, (rawPuts (ts.take k)).length = m := ⟨_, rfl⟩
        rw [hm] at hlen
        have HM := Lib.hid hm
        have HT := Lib.hid ht
        have HI := Lib.hid hinv.out
        have HBW := Lib.hid hb
        have HOWN := Lib.hid (show wr.ownsRow w.heap.size 33 1 u3 m (U16n (rawPuts (ts.take k))) by rw [← hm]; exact hinv.out.1)
        clear hcell ht hinv hb hm
        by_cases hneg : t.what < 0
        · have hnegd : decide (t.what < 0) = true := by simpa using hneg
          go_wp2_with fail
          refine (works_true _).mono ?_
          rintro e w3 ⟨rfl, hb3⟩
          have HB3 := Lib.hid hb3
          clear hb3
          go_wp2_with fail
          go_ret
          exact ⟨rfl, (HBW.out.alloc hwsz _).trans (HB3.out.mono (by simp; omega))⟩
        · have hnegd : decide (t.what < 0) = false := by simpa using hneg
          by_cases hgt : 5 < t.what
          · have hgtd : decide (5 < t.what) = true := by simpa using hgt
            go_wp2_with fail
            refine (works_true _).mono ?_
            rintro e w3 ⟨rfl, hb3⟩
            have HB3 := Lib.hid hb3
            clear hb3
            go_wp2_with fail
            go_ret
            exact ⟨rfl, (HBW.out.alloc hwsz _).trans (HB3.out.mono (by simp; omega))⟩
          · have hgtd : decide (5 < t.what) = false := by simpa using hgt
            by_cases h0 : t.what = 0
            · have HW0 := Lib.hid h0
              have h0' : (t.what == 0) = true := by simpa using h0
              clear h0
              go_wp2_with (at_builtin; refine wpList_append_lies _ rfl _ _ _ rfl w.heap.size 33 i0 _ 1 2 Try.underlying22 hi0 hz0 hz1 hz2 rfl (by decide) u3 m _ rfl ((HOWN.out.alloc _).alloc _) ⟨wr.heap.size + 1, 0, none⟩ 1 1 [.int .u16 (t.seq : Nat)] rfl rfl (World.news_of_block (cs := #[.int .u16 (t.seq : Nat)]) (t := 33) (fr := (0, 0)) (blk_mk' (by simp))) (by simp [Value.oneCell']) (by omega) (by simp only [maxLen]; omega) (by omega) (by simp; omega) (wr.heap.size + 1 + 1) (by simp) ?_; intro gg cap w1 hown1 hgrow hat hlt1)
              refine ⟨⟨k + 1, by omega, by go_num, ?_⟩, by simp [intOf]; omega⟩
              have h := HI.out.push HT.out HW0.out (by rw [HM.out]; exact hown1) hgrow
              rwa [HM.out] at h
            · have HW0 := Lib.hid h0
              have h0' : (t.what == 0) = false := by simpa using h0
              clear h0
              go_wp2_with fail
              refine ⟨⟨k + 1, by omega, by go_num, HI.out.skip HT.out HW0.out (by omega)⟩, by simp [intOf]; omega⟩
      · obtain rfl : k = n := by omega
        have hT : ts.take k = ts := List.take_of_length_le (by have := HLEN.out; omega)
        obtain ⟨ho1, hb1, hw1⟩ := hinv.out
        rw [hT] at ho1 hw1
        have hst := (HR.out.keep fun p hp => hb1.cell hp).steps fun t ht => (hw1 t ht).1
        have hq0 := rawPuts_eq fun t ht => (hw1 t ht).1
        rw [hq0] at ho1
        obtain ⟨ss, hss⟩ : ∃ ss, ts.map stpOf = ss := ⟨_, rfl⟩
        rw [hss] at hst ho1
        have hok : ∀ s ∈ ss, s.what ≤ 5 ∧ s.seq ≤ 65535 ∧ s.time ≤ 4294967295 := by
          intro s hs
          rw [← hss] at hs
          obtain ⟨t, ht, rfl⟩ := List.mem_map.1 hs
          have h1 := hw1 t ht
          have h2 := HTS.out t ht
          simp only [stpOf]
          omega
        obtain ⟨m, hm⟩ : ∃ m, (qPuts ss).length = m := ⟨_, rfl⟩
        have hmk : m ≤ k := by
          have h1 := rawPuts_len ts
          have h2 := HLEN.out
          rw [hq0, hss, hm] at h1
          omega
        rw [hm] at ho1
        obtain ⟨A1, c1, rfl⟩ := own_slice ho1
        have HB1 := Lib.hid hb1
        have HO1 := Lib.hid ho1
        have HST := Lib.hid hst
        have HOK := Lib.hid hok
        have HM := Lib.hid hm
        have HSL := Lib.hid hst.1
        clear hT ho1 hb1 hw1 hst hq0 hss hok hm hinv hlt
        obtain ⟨wl, rfl⟩ : ∃ wl : World, wl = wr := ⟨_, rfl⟩
        have hwsz := HB1.out.size
        go_wp2_with fail
        go_loopw [6, 44] (fun v i wr => ∃ j : Nat, j ≤ m ∧ i = .int .i64 j ∧ Hid (L2 (qPuts ss) j v wl wr)) (fun _ i _ => m - (intOf i).toNat)
        case atStart => exact ⟨0, by omega, rfl, World.ownsRow_nil _ _ _ _, Below.refl _ _⟩
        case round =>
          obtain ⟨j, hj, rfl, hinv⟩ := hrel
          by_cases hlt : j < m
          · obtain ⟨q, hq⟩ : ∃ q, (qPuts ss)[j]? = some q := ⟨_, List.getElem?_eq_getElem (by rw [HM.out]; exact hlt)⟩
            obtain ⟨g1, cap1, hA1, _, hg1⟩ := HO1.out.form (by omega)
            injection hA1 with hA1 he1 he2
            clear he1 he2
            subst hA1
            have hc : wr.cell? ⟨g1, j, none⟩ = some (.int .u16 (q : Nat)) := by
              rw [hinv.out.2.cell (p := ⟨g1, j, none⟩) hg1]
              have h := HO1.out.cells (g := g1) rfl j (.int .u16 (q : Nat)) (by simp [U16n, hq])
              have hadd : (⟨g1, 0, none⟩ : Addr).add j = ⟨g1, j, none⟩ := by unfold Addr.add; split <;> simp_all
              rwa [hadd] at h
            have hjm : (j : Int) < (m : Int) := by omega
            have hq65 : q ≤ 65535 := by
              have h := List.mem_of_getElem? hq
              simp only [qPuts, List.mem_map, List.mem_filter] at h
              obtain ⟨s, ⟨h1, _⟩, rfl⟩ := h
              exact (HOK.out s h1).2.1
            have hqi : (q : Int) ≤ 65535 := by omega
            have hqw : IntKind.i64.wrap (q : Int) = (q : Int) := IntWalk.i64_in _ (by omega)
            have hwj := hinv.out.2.size
            have HI := Lib.hid hinv.out
            have HQ := Lib.hid hq
            clear hq hinv
            go_wp2_with (at_builtin; refine wpList_append_lies _ rfl _ _ _ rfl wl.heap.size 2 j0 _ 1 8 Try.underlying23 hj0 jz0 jz1 jz2 rfl (by decide) u6 j _ rfl (HI.out.1.alloc _) ⟨wr.heap.size, 0, none⟩ 1 1 [.int .i64 (q : Nat)] rfl rfl (World.news_of_block (cs := #[.int .i64 (q : Nat)]) (t := 2) (fr := (0, 0)) (blk_mk' rfl)) (by simp [Value.oneCell']) (by omega) (by simp only [maxLen]; omega) (by omega) (by simp; omega) (wr.heap.size + 1) (by simp) ?_; intro gg cap w1 hown1 hgrow hat hlt1)
            go_roundw
            case rel =>
              exact ⟨j + 1, by omega, by go_num, HI.out.push HQ.out hown1 hgrow⟩
            case measure => simp [intOf]; omega
          · obtain rfl : j = m := by omega
            obtain ⟨hx1, hbx⟩ := hinv.out
            rw [List.take_of_length_le (by rw [HM.out]; omega)] at hx1
            obtain ⟨X, cx, rfl⟩ := own_slice hx1
            have HX := Lib.hid hx1
            have HBX := Lib.hid hbx
            have hwx := hbx.size
            clear hx1 hbx hinv hlt
            by_cases h60 : 60 < k
            · have h60' : decide ((60 : Int) < (k : Int)) = true := by simp; omega
              go_wp2_with fail
              refine (works_true _).mono ?_
              rintro e w3 ⟨rfl, hb3⟩
              have HB3 := Lib.hid hb3
              clear hb3
              go_wp2_with fail
              go_ret
              exact ⟨rfl, HB1.out.trans ((HBX.out.mono hwsz).trans (HB3.out.mono (by omega)))⟩
            · have h60' : decide ((60 : Int) < (k : Int)) = false := by simp; omega
              go_wp2_with fail
              have hjc : j ≤ cx := by
                obtain ⟨A', c', e, h1, _⟩ := (OwnsAt.ofRow HX.out).shape
                injection e with _ _ e
                omega
              have hrx : Reads wr wr.heap.size 1 X j (((qPuts ss).map fun q : Nat => (q : Int)).map (Value.int .i64)) := by
                have h := Reads.own HX.out
                have e : I64n (qPuts ss) = ((qPuts ss).map fun q : Nat => (q : Int)).map (Value.int .i64) := by simp [I64n]
                rwa [e] at h
              refine (apart_any j cx wr.heap.size X ((qPuts ss).map fun q : Nat => (q : Int)) wr hrx (by omega) hjc).mono ?_
              rintro e w3 ⟨hw3, b, rfl, hbt⟩
              subst hw3
              cases b with
              | false =>
                clear hbt hrx
                go_wp2_with fail
                refine (works_true _).mono ?_
                rintro e w4 ⟨rfl, hb4⟩
                have HB4 := Lib.hid hb4
                clear hb4
                go_wp2_with fail
                go_ret
                exact ⟨rfl, HB1.out.trans ((HBX.out.mono hwsz).trans (HB4.out.mono (by omega)))⟩
              | true =>
                have HND := Lib.hid (distinct_nodup (hbt rfl))
                have hstw : StepsAt w3 w3.heap.size A k ss := by
                  have h := HST.out.keep (w' := w3) fun p hp => HBX.out.cell (by omega)
                  refine ⟨h.1, fun hn => ?_⟩
                  obtain ⟨ga, off, e, hb, hc⟩ := h.2 hn
                  exact ⟨ga, off, e, by omega, hc⟩
                have HSTW := Lib.hid hstw
                clear hbt hrx hstw
                go_wp2_with fail
                refine (queue_any k c A ss w3 HSTW.out (by omega) HOK.out).mono ?_
                rintro e w4 ⟨hb4, A4, c4, rfl, ho4⟩
                have HB4 := Lib.hid hb4
                have HO4 := Lib.hid ho4
                have hw4 := hb4.size
                have hsq0 : L3 ss 0 w4.heap.size w4 (w4.alloc (.cells #[.slice none 0 0] 52)) := ⟨none, 0, ⟨Blk.new _ _ _, OwnsAt.nil _ _ _ _, Nat.le_refl _⟩, (Below.refl _ _).alloc (Nat.le_refl _) _⟩
                have HSQ0 := Lib.hid hsq0
                have hfin : ∀ wz, Below w4.heap.size w4 wz → ∀ w5, Below wz.heap.size wz w5 → Below w.heap.size w w5 := fun wz h1 w5 h2 =>
                  HB1.out.trans ((HBX.out.trans ((HB4.out.trans ((h1.trans (h2.mono h1.size)).mono hw4)).mono hwx)).mono hwsz)
                have HFIN := Lib.hid hfin
                clear hb4 ho4 hsq0 hfin
                go_wp2_with fail
                go_loopw [11, 74] (fun v i wr => ∃ k0 : Nat, k0 ≤ k ∧ i = .int .i64 k0 ∧ v = .int .i64 ((qPuts (ss.take k0)).length : Nat) ∧ Hid (L3 ss k0 w4.heap.size w4 wr)) (fun _ i _ => k - (intOf i).toNat)
                case atStart => exact ⟨0, by omega, rfl, rfl, HSQ0.out⟩
                case round =>
                  obtain ⟨k0, hk0, rfl, rfl, hinv⟩ := hrel
                  by_cases hlt : k0 < k
                  · have hkl : k0 < ss.length := by rw [HSL.out]; exact hlt
                    obtain ⟨s, hs⟩ : ∃ s, ss[k0]? = some s := ⟨_, List.getElem?_eq_getElem hkl⟩
                    obtain ⟨ga, off, hA, hab, hcell⟩ := HSTW.out.2 (by omega)
                    obtain ⟨Q, cq, hsq, hbq⟩ := hinv.out
                    have hb3 : Below w3.heap.size w3 wr := HB4.out.trans (hbq.mono hw4)
                    obtain ⟨y0, y1, y2⟩ := hcell k0 s hs
                    rw [← hb3.cell (p := ⟨ga, off + k0 * 3, none⟩) hab] at y0
                    rw [← hb3.cell (p := ⟨ga, off + k0 * 3 + 1, none⟩) hab] at y1
                    rw [← hb3.cell (p := ⟨ga, off + k0 * 3 + 2, none⟩) hab] at y2
                    subst hA
                    have hwz := hbq.size
                    have hgr : ga < wr.heap.size := by omega
                    have hkn : (k0 : Int) < (k : Int) := by omega
                    obtain ⟨s1, s2, s3⟩ := HOK.out s (List.mem_of_getElem? hs)
                    obtain ⟨f1, f2, f3⟩ := st_facts HND.out (fun s hs => (HOK.out s hs).2.1) k0
                    obtain ⟨ga4, cap4, hA4, _, hg4⟩ := HO4.out.form (by omega)
                    injection hA4 with hA4 he1 he2
                    clear he1 he2
                    subst hA4
                    have hgot : ∀ j u, (anL (qOut ss))[j]? = some u → wr.cell? ⟨ga4, j, none⟩ = some u := fun j u hu => (hbq.cell (p := ⟨ga4, j, none⟩) hg4).trans (by
                      have h := HO4.out.cells (g := ga4) rfl j u hu
                      have hadd : (⟨ga4, 0, none⟩ : Addr).add j = ⟨ga4, j, none⟩ := by unfold Addr.add; split <;> simp_all
                      rwa [hadd] at h)
                    have hst : (qSt (ss.take k0)).length < 60000 := by
                      have h1 := qSt_length (ss.take k0)
                      have h2 : (ss.take k0).length ≤ k0 := List.length_take_le _ _
                      omega
                    obtain ⟨st, hste⟩ : ∃ st, qSt (ss.take k0) = st := ⟨_, rfl⟩
                    rw [hste] at hsq f1 f2 f3 hst
                    have HGOT := Lib.hid hgot
                    have HSQ := Lib.hid hsq
                    have HBQ := Lib.hid hbq
                    have HS := Lib.hid hs
                    have HSTE := Lib.hid hste
                    have HF := Lib.hid (And.intro f1 (And.intro f2 f3))
                    clear hcell hsq hbq hb3 hs hste hinv f1 f2 f3 hgot
                    obtain ⟨wh, sq, tm⟩ := s
                    simp only at s1 s2 s3 y0 y1 y2
                    have hwh : wh = 0 ∨ wh = 1 ∨ wh = 2 ∨ wh = 3 ∨ wh = 4 ∨ wh = 5 := by omega
                    rcases hwh with rfl | rfl | rfl | rfl | rfl | rfl
                    · have HSQW := Lib.hid (HSQ.out.alloc (.cells #[.int .i64 (0 : Nat), .int .u16 sq, .int .u32 tm] 45))
                      have HBW := Lib.hid (HBQ.out.alloc hwz (.cells #[.int .i64 (0 : Nat), .int .u16 sq, .int .u32 tm] 45))
                      have HSB : Hid (Blk (wr.alloc (.cells #[.int .i64 (0 : Nat), .int .u16 sq, .int .u32 tm] 45)) wr.heap.size 45 #[.int .i64 (0 : Nat), .int .u16 sq, .int .u32 tm]) := Blk.new _ _ _
                      have hwh' : ((0 : Nat) : Int) = 0 := rfl
                      have HXC : Hid (∀ j u, (I64n (qPuts ss))[j]? = some u → ∃ gx, X = some ⟨gx, 0, none⟩ ∧ (wr.alloc (.cells #[.int .i64 (0 : Nat), .int .u16 sq, .int .u32 tm] 45)).cell? ⟨gx, j, none⟩ = some u) := by
                        intro j' u hu
                        have hj' := (List.getElem?_eq_some_iff.1 hu).1
                        have hpos : 0 < j := by
                          have h1 := HX.out.1
                          omega
                        obtain ⟨gx, capx, hX, _, hgx⟩ := HX.out.form hpos
                        injection hX with hX _ _
                        refine ⟨gx, hX, ?_⟩
                        rw [HBW.out.cell (p := ⟨gx, j', none⟩) (by show gx < _; omega), HB4.out.cell (p := ⟨gx, j', none⟩) (by show gx < _; omega)]
                        subst hX
                        have h := HX.out.cells (g := gx) rfl j' u hu
                        have hadd : (⟨gx, 0, none⟩ : Addr).add j' = ⟨gx, j', none⟩ := by unfold Addr.add; split <;> simp_all
                        rwa [hadd] at h
                      have HGW : Hid (∀ j u, (anL (qOut ss))[j]? = some u → (wr.alloc (.cells #[.int .i64 (0 : Nat), .int .u16 sq, .int .u32 tm] 45)).cell? ⟨ga4, j, none⟩ = some u) :=
                        fun j u hu => (World.cell?_of_block (a := ⟨ga4, j, none⟩) (Below.heap_alloc wr _ ga4 (by omega))).trans (HGOT.out j u hu)
                      clear hwh'
                      go_upto_region 30 with fail
                      generalize hW : wr.alloc (.cells #[.int .i64 (0 : Nat), .int .u16 sq, .int .u32 tm] 45) = W at *
                      clear hW y0 y1 y2
                      generalize wr.heap.size = sb at *
                      have t0 := HSB.out.cell 0
                      have t1 := HSB.out.cell 1
                      have t2 := HSB.out.cell 2
                      simp at t0 t1 t2
                      have cqh : W.cell? ⟨w4.heap.size, 0, none⟩ = some (.slice Q st.length cq) := HSQW.out.head.cell 0
                      have hBWs := HBW.out.size
                      obtain ⟨N, hN⟩ : ∃ N, (qPuts (ss.take k0)).length = N := ⟨_, rfl⟩
                      have hpa := puts_at HS.out rfl
                      rw [hN] at hpa
                      obtain ⟨gx, hgx, hxc⟩ := HXC.out N (.int .i64 (sq : Nat)) (by simp [I64n, hpa])
                      subst hgx
                      have hNj : N < j := by
                        have h1 := (List.getElem?_eq_some_iff.1 hpa).1
                        have h2 := HX.out.1
                        simp [I64n] at h2
                        omega
                      have hNi : (N : Int) < (j : Int) := by omega
                      have HNN := Lib.hid hN
                      rw [hN]
                      clear hN hpa
                      go_cut [] (fun wx => Hid (L3 ss (k0 + 1) w4.heap.size w4 wx))
                      case first =>
                        go_region_law (go_simp; go_at_call 22; refine (spush_any w4.heap.size w4.heap.size cq Q st ⟨sq, tm⟩ _ HSQW.out.drew hst (Nat.le_of_lt_succ (Nat.lt_succ_of_le hBWs))).mono ?_; rintro e w6 ⟨rfl, i, A', c', hi, hp1, hp2, hsq6, hb6⟩; have H6 := Lib.hid (And.intro hi (And.intro hp1 (And.intro hp2 (And.intro hsq6 hb6)))); clear hi hp1 hp2 hsq6 hb6)
                        all_goals
                          go_wp2_with fail
                          go_meet
                          obtain ⟨hi, hp1, hp2, hsq6, hb6⟩ := H6.out
                          obtain ⟨f1, f2, f3⟩ := HF.out
                          have he := insBy_place (k := It.n) (x := ⟨sq, tm⟩) f1 (f3 _ HS.out rfl) hi hp1 hp2
                          show L3 ss (k0 + 1) w4.heap.size w4 _
                          refine ⟨A', c', ?_, HBW.out.trans (below_undrew hb6)⟩
                          rw [qSt_take HS.out, HSTE.out]
                          show SQ _ _ _ (insBy It.n ⟨sq, tm⟩ st) A' c'
                          rw [he]
                          exact hsq6
                      case rest =>
                        have HC := Lib.hid hcut.out
                        clear hcut
                        have hNw : IntKind.i64.wrap ((N : Int) + 1) = (N : Int) + 1 := IntWalk.i64_in _ (by omega)
                        have HN2 : Hid ((qPuts (ss.take (k0 + 1))).length = N + 1) := by
                          show _ = _
                          rw [List.take_add_one, HS.out, Option.toList_some, qPuts_snoc, if_pos rfl, List.length_append, HNN.out]
                          rfl
                        go_wp2_with fail
                        refine ⟨⟨k0 + 1, by omega, by go_num, ?_, HC.out⟩, by simp [intOf]; omega⟩
                        rw [HN2.out]
                        go_num
                    · have HSQW := Lib.hid (HSQ.out.alloc (.cells #[.int .i64 (1 : Nat), .int .u16 sq, .int .u32 tm] 45))
                      have HBW := Lib.hid (HBQ.out.alloc hwz (.cells #[.int .i64 (1 : Nat), .int .u16 sq, .int .u32 tm] 45))
                      have HSB : Hid (Blk (wr.alloc (.cells #[.int .i64 (1 : Nat), .int .u16 sq, .int .u32 tm] 45)) wr.heap.size 45 #[.int .i64 (1 : Nat), .int .u16 sq, .int .u32 tm]) := Blk.new _ _ _
                      have hwh' : ((1 : Nat) : Int) = 1 := rfl
                      have HXC : Hid (∀ j u, (I64n (qPuts ss))[j]? = some u → ∃ gx, X = some ⟨gx, 0, none⟩ ∧ (wr.alloc (.cells #[.int .i64 (1 : Nat), .int .u16 sq, .int .u32 tm] 45)).cell? ⟨gx, j, none⟩ = some u) := by
                        intro j' u hu
                        have hj' := (List.getElem?_eq_some_iff.1 hu).1
                        have hpos : 0 < j := by
                          have h1 := HX.out.1
                          omega
                        obtain ⟨gx, capx, hX, _, hgx⟩ := HX.out.form hpos
                        injection hX with hX _ _
                        refine ⟨gx, hX, ?_⟩
                        rw [HBW.out.cell (p := ⟨gx, j', none⟩) (by show gx < _; omega), HB4.out.cell (p := ⟨gx, j', none⟩) (by show gx < _; omega)]
                        subst hX
                        have h := HX.out.cells (g := gx) rfl j' u hu
                        have hadd : (⟨gx, 0, none⟩ : Addr).add j' = ⟨gx, j', none⟩ := by unfold Addr.add; split <;> simp_all
                        rwa [hadd] at h
                      have HGW : Hid (∀ j u, (anL (qOut ss))[j]? = some u → (wr.alloc (.cells #[.int .i64 (1 : Nat), .int .u16 sq, .int .u32 tm] 45)).cell? ⟨ga4, j, none⟩ = some u) :=
                        fun j u hu => (World.cell?_of_block (a := ⟨ga4, j, none⟩) (Below.heap_alloc wr _ ga4 (by omega))).trans (HGOT.out j u hu)
                      clear hwh'
                      go_upto_region 33 with fail
                      generalize hW : wr.alloc (.cells #[.int .i64 (1 : Nat), .int .u16 sq, .int .u32 tm] 45) = W at *
                      clear hW y0 y1 y2
                      generalize wr.heap.size = sb at *
                      have t0 := HSB.out.cell 0
                      have t1 := HSB.out.cell 1
                      have t2 := HSB.out.cell 2
                      simp at t0 t1 t2
                      have cqh : W.cell? ⟨w4.heap.size, 0, none⟩ = some (.slice Q st.length cq) := HSQW.out.head.cell 0
                      have hBWs := HBW.out.size
                      have HSQ6 := HSQW
                      have HB6 := HBW
                      have HG6 := HGW
                      by_cases hz : st = []
                      · have HO : Hid (takeBy (fun _ => true) st = none) := by rw [hz]; rfl
                        have hz0 : st.length = 0 := by rw [hz]; rfl
                        rw [hz0] at cqh
                        clear hz hz0
                        have HQA : Hid (qAns ⟨1, sq, tm⟩ st = ⟨false, 0, 0⟩ ∧ qNext ⟨1, sq, tm⟩ st = st) := by
                          show _ ∧ _
                          constructor
                          · show anOf (Option.map Prod.fst (qTake ⟨1, sq, tm⟩ st)) = _
                            rw [show qTake ⟨1, sq, tm⟩ st = none from HO.out]
                            rfl
                          · show restOf st (qTake ⟨1, sq, tm⟩ st) = _
                            rw [show qTake ⟨1, sq, tm⟩ st = none from HO.out]
                            rfl
                        have hgo := qOut_get HS.out
                        rw [HSTE.out] at hgo
                        obtain ⟨ag0, ag1, ag2⟩ := anL_at hgo
                        have gc0 := HG6.out _ _ ag0
                        have gc1 := HG6.out _ _ ag1
                        clear ag0 ag1 ag2 hgo
                        rw [HQA.out.1] at gc0 gc1
                        simp only at gc0 gc1
                        go_wp2_with fail
                        go_quiet (fail)
                        go_wp2_with fail
                        have HQN : Hid (qSt (ss.take (k0 + 1)) = st) := by
                          show _ = _
                          rw [qSt_take HS.out, HSTE.out]
                          exact HQA.out.2
                        have HS11 : Hid (Value.int .i64 ((qPuts (ss.take k0)).length : Nat) = .int .i64 ((qPuts (ss.take (k0 + 1))).length : Nat)) := by
                          show _ = _
                          rw [List.take_add_one, HS.out, Option.toList_some, qPuts_snoc, if_neg (by simp), List.append_nil]
                        go_roundw
                        case rel =>
                          first
                            | exact ⟨k0 + 1, by omega, by go_num, HS11.out, L3.mk (HSQ6.out.drewN _) (below_drewN HB6.out _) HQN.out⟩
                            | ((repeat apply Exists.intro); refine ⟨?_, ?_⟩; rotate_left; (repeat (first | exact rfl | refine ⟨rfl, ?_⟩)); exact ⟨k0 + 1, by omega, by go_num, HS11.out, L3.mk (HSQ6.out.drewN _) (below_drewN HB6.out _) HQN.out⟩)
                        case measure => simp [intOf]; omega
                      · have HO : Hid (∃ a x b, st = a ++ x :: b ∧ takeBy (fun _ => true) st = some (x, a ++ b) ∧ a.length = 0) := by
                          cases st with
                          | nil => exact absurd rfl hz
                          | cons y r => exact ⟨[], y, r, rfl, by simp [takeBy], rfl⟩
                        have hpos : 0 < st.length := by
                          cases st with
                          | nil => exact absurd rfl hz
                          | cons y r => simp
                        clear hz
                        obtain ⟨a, x, b, hst2, hta, htk⟩ := HO.out
                        have HQA : Hid (qAns ⟨1, sq, tm⟩ st = ⟨true, x.n, 0⟩ ∧ qNext ⟨1, sq, tm⟩ st = a ++ b) := by
                          show _ ∧ _
                          constructor
                          · show anOf (Option.map Prod.fst (qTake ⟨1, sq, tm⟩ st)) = _
                            rw [show qTake ⟨1, sq, tm⟩ st = some (x, a ++ b) from hta]
                            rfl
                          · show restOf st (qTake ⟨1, sq, tm⟩ st) = _
                            rw [show qTake ⟨1, sq, tm⟩ st = some (x, a ++ b) from hta]
                            rfl
                        have hgo := qOut_get HS.out
                        rw [HSTE.out] at hgo
                        obtain ⟨ag0, ag1, ag2⟩ := anL_at hgo
                        have gc0 := HG6.out _ _ ag0
                        have gc1 := HG6.out _ _ ag1
                        clear ag0 ag1 ag2 hgo
                        rw [HQA.out.1] at gc0 gc1
                        simp only at gc0 gc1
                        have hm1 : a.length = 0 := htk
                        have hml : 0 < st.length := by rw [hst2, ← hm1]; simp
                        have hxa : st[0]? = some x := by rw [hst2, ← hm1]; simp
                        have hx16 := u16_self x.n (HF.out.2.1 x (List.mem_of_getElem? hxa))
                        obtain ⟨gq, offq, hQ, _, _, hqc⟩ := HSQ6.out.own.lits (by omega)
                        subst hQ
                        have qc0 := hqc _ _ (itCells_at hxa).1
                        have hpi : (0 : Int) < (st.length : Int) := by omega
                        simp only [Nat.zero_mul, Nat.add_zero] at qc0
                        have h6s : w4.heap.size ≤ W.heap.size := HB6.out.size
                        have HTA := Lib.hid (And.intro hst2 hm1)

                        clear hst2 hta htk hm1 hxa hqc
                        go_wp2_with fail
                        go_quiet (fail)
                        go_wp2_with fail
                        refine (stake_any w4.heap.size w4.heap.size cq 0 (some ⟨gq, offq, none⟩) st _ (HSQ6.out.drewN _) hst (by simpa using h6s) hml).mono ?_
                        rintro e w7 ⟨⟨v7, rfl⟩, A', c', hsq7, hb7⟩
                        have H7 := Lib.hid (And.intro hsq7 hb7)
                        clear hsq7 hb7
                        go_wp2_with fail
                        have HEA : Hid (st.take 0 ++ st.drop (0 + 1) = a ++ b) := by
                          show _ = _
                          rw [HTA.out.1, ← HTA.out.2]
                          simp
                        have HQN : Hid (qSt (ss.take (k0 + 1)) = a ++ b) := by
                          show _ = _
                          rw [qSt_take HS.out, HSTE.out]
                          exact HQA.out.2
                        have HS11 : Hid (Value.int .i64 ((qPuts (ss.take k0)).length : Nat) = .int .i64 ((qPuts (ss.take (k0 + 1))).length : Nat)) := by
                          show _ = _
                          rw [List.take_add_one, HS.out, Option.toList_some, qPuts_snoc, if_neg (by simp), List.append_nil]
                        go_roundw
                        case rel =>
                          first
                            | exact ⟨k0 + 1, by omega, by go_num, HS11.out, L3.mk (HEA.out ▸ H7.out.1) (HB6.out.trans (below_undrewN H7.out.2)) HQN.out⟩
                            | ((repeat apply Exists.intro); refine ⟨?_, ?_⟩; rotate_left; (repeat (first | exact rfl | refine ⟨rfl, ?_⟩)); exact ⟨k0 + 1, by omega, by go_num, HS11.out, L3.mk (HEA.out ▸ H7.out.1) (HB6.out.trans (below_undrewN H7.out.2)) HQN.out⟩)
                        case measure => simp [intOf]; omega
                    · have HSQW := Lib.hid (HSQ.out.alloc (.cells #[.int .i64 (2 : Nat), .int .u16 sq, .int .u32 tm] 45))
                      have HBW := Lib.hid (HBQ.out.alloc hwz (.cells #[.int .i64 (2 : Nat), .int .u16 sq, .int .u32 tm] 45))
                      have HSB : Hid (Blk (wr.alloc (.cells #[.int .i64 (2 : Nat), .int .u16 sq, .int .u32 tm] 45)) wr.heap.size 45 #[.int .i64 (2 : Nat), .int .u16 sq, .int .u32 tm]) := Blk.new _ _ _
                      have hwh' : ((2 : Nat) : Int) = 2 := rfl
                      have HXC : Hid (∀ j u, (I64n (qPuts ss))[j]? = some u → ∃ gx, X = some ⟨gx, 0, none⟩ ∧ (wr.alloc (.cells #[.int .i64 (2 : Nat), .int .u16 sq, .int .u32 tm] 45)).cell? ⟨gx, j, none⟩ = some u) := by
                        intro j' u hu
                        have hj' := (List.getElem?_eq_some_iff.1 hu).1
                        have hpos : 0 < j := by
                          have h1 := HX.out.1
                          omega
                        obtain ⟨gx, capx, hX, _, hgx⟩ := HX.out.form hpos
                        injection hX with hX _ _
                        refine ⟨gx, hX, ?_⟩
                        rw [HBW.out.cell (p := ⟨gx, j', none⟩) (by show gx < _; omega), HB4.out.cell (p := ⟨gx, j', none⟩) (by show gx < _; omega)]
                        subst hX
                        have h := HX.out.cells (g := gx) rfl j' u hu
                        have hadd : (⟨gx, 0, none⟩ : Addr).add j' = ⟨gx, j', none⟩ := by unfold Addr.add; split <;> simp_all
                        rwa [hadd] at h
                      have HGW : Hid (∀ j u, (anL (qOut ss))[j]? = some u → (wr.alloc (.cells #[.int .i64 (2 : Nat), .int .u16 sq, .int .u32 tm] 45)).cell? ⟨ga4, j, none⟩ = some u) :=
                        fun j u hu => (World.cell?_of_block (a := ⟨ga4, j, none⟩) (Below.heap_alloc wr _ ga4 (by omega))).trans (HGOT.out j u hu)
                      clear hwh'
                      go_upto_region 37 with fail
                      generalize hW : wr.alloc (.cells #[.int .i64 (2 : Nat), .int .u16 sq, .int .u32 tm] 45) = W at *
                      clear hW y0 y1 y2
                      generalize wr.heap.size = sb at *
                      have t0 := HSB.out.cell 0
                      have t1 := HSB.out.cell 1
                      have t2 := HSB.out.cell 2
                      simp at t0 t1 t2
                      have cqh : W.cell? ⟨w4.heap.size, 0, none⟩ = some (.slice Q st.length cq) := HSQW.out.head.cell 0
                      have hBWs := HBW.out.size
                      go_wp2_with fail
                      refine (sfind_any w4.heap.size w4.heap.size cq sq Q st W HSQW.out hst HF.out.2.1).mono ?_
                      rintro e w6 ⟨hb6, ho⟩
                      have HSQ6 := Lib.hid (HSQW.out.below hb6)
                      have HB6 := Lib.hid (HBW.out.trans (hb6.mono hBWs))
                      have HG6 : Hid (∀ j u, (anL (qOut ss))[j]? = some u → w6.cell? ⟨ga4, j, none⟩ = some u) := fun j u hu => (hb6.cell (p := ⟨ga4, j, none⟩) (by show ga4 < _; omega)).trans (HGW.out j u hu)
                      have hlt45 := HSB.out.lt
                      have v0 := (hb6.cell (p := ⟨sb, 0, none⟩) hlt45).trans t0
                      have c6h : w6.cell? ⟨w4.heap.size, 0, none⟩ = some (.slice Q st.length cq) := HSQ6.out.head.cell 0
                      clear hb6 cqh t0 t1 t2
                      rcases ho with ⟨rfl, hno⟩ | ⟨a, x, b, e1, e2, rfl⟩
                      · have HO := Lib.hid hno
                        clear hno
                        have HQA : Hid (qAns ⟨2, sq, tm⟩ st = ⟨false, 0, 0⟩ ∧ qNext ⟨2, sq, tm⟩ st = st) := by
                          show _ ∧ _
                          constructor
                          · show anOf (Option.map Prod.fst (qTake ⟨2, sq, tm⟩ st)) = _
                            rw [show qTake ⟨2, sq, tm⟩ st = none from HO.out]
                            rfl
                          · show restOf st (qTake ⟨2, sq, tm⟩ st) = _
                            rw [show qTake ⟨2, sq, tm⟩ st = none from HO.out]
                            rfl
                        have hgo := qOut_get HS.out
                        rw [HSTE.out] at hgo
                        obtain ⟨ag0, ag1, ag2⟩ := anL_at hgo
                        have gc0 := HG6.out _ _ ag0
                        have gc1 := HG6.out _ _ ag1
                        clear ag0 ag1 ag2 hgo
                        rw [HQA.out.1] at gc0 gc1
                        simp only at gc0 gc1
                        go_wp2_with fail
                        go_quiet (fail)
                        go_wp2_with fail
                        have HQN : Hid (qSt (ss.take (k0 + 1)) = st) := by
                          show _ = _
                          rw [qSt_take HS.out, HSTE.out]
                          exact HQA.out.2
                        have HS11 : Hid (Value.int .i64 ((qPuts (ss.take k0)).length : Nat) = .int .i64 ((qPuts (ss.take (k0 + 1))).length : Nat)) := by
                          show _ = _
                          rw [List.take_add_one, HS.out, Option.toList_some, qPuts_snoc, if_neg (by simp), List.append_nil]
                        go_roundw
                        case rel =>
                          first
                            | exact ⟨k0 + 1, by omega, by go_num, HS11.out, L3.mk (HSQ6.out.drewN _) (below_drewN HB6.out _) HQN.out⟩
                            | ((repeat apply Exists.intro); refine ⟨?_, ?_⟩; rotate_left; (repeat (first | exact rfl | refine ⟨rfl, ?_⟩)); exact ⟨k0 + 1, by omega, by go_num, HS11.out, L3.mk (HSQ6.out.drewN _) (below_drewN HB6.out _) HQN.out⟩)
                        case measure => simp [intOf]; omega
                      · have HO : Hid (∃ a' x b, st = a' ++ x :: b ∧ takeBy (fun x => decide (x.n = sq)) st = some (x, a' ++ b) ∧ a'.length = a.length) := ⟨a, x, b, e1, e2, rfl⟩
                        have HO : Hid (∃ a' x b, st = a' ++ x :: b ∧ takeBy (fun x => decide (x.n = sq)) st = some (x, a' ++ b) ∧ a'.length = a.length) := HO
                        generalize a.length = al at *
                        clear e1 e2
                        obtain ⟨a, x, b, hst2, hta, htk⟩ := HO.out
                        have HQA : Hid (qAns ⟨2, sq, tm⟩ st = ⟨true, x.n, 0⟩ ∧ qNext ⟨2, sq, tm⟩ st = a ++ b) := by
                          show _ ∧ _
                          constructor
                          · show anOf (Option.map Prod.fst (qTake ⟨2, sq, tm⟩ st)) = _
                            rw [show qTake ⟨2, sq, tm⟩ st = some (x, a ++ b) from hta]
                            rfl
                          · show restOf st (qTake ⟨2, sq, tm⟩ st) = _
                            rw [show qTake ⟨2, sq, tm⟩ st = some (x, a ++ b) from hta]
                            rfl
                        have hgo := qOut_get HS.out
                        rw [HSTE.out] at hgo
                        obtain ⟨ag0, ag1, ag2⟩ := anL_at hgo
                        have gc0 := HG6.out _ _ ag0
                        have gc1 := HG6.out _ _ ag1
                        clear ag0 ag1 ag2 hgo
                        rw [HQA.out.1] at gc0 gc1
                        simp only at gc0 gc1
                        have hm1 : a.length = al := htk
                        have hml : al < st.length := by rw [hst2, ← hm1]; simp
                        have hxa : st[al]? = some x := by rw [hst2, ← hm1]; simp
                        have hx16 := u16_self x.n (HF.out.2.1 x (List.mem_of_getElem? hxa))
                        obtain ⟨gq, offq, hQ, _, _, hqc⟩ := HSQ6.out.own.lits (by omega)
                        subst hQ
                        have qc0 := hqc _ _ (itCells_at hxa).1
                        have hmi : (al : Int) < (st.length : Int) := by omega
                        have h6s : w4.heap.size ≤ w6.heap.size := HB6.out.size
                        have HTA := Lib.hid (And.intro hst2 hm1)
                        clear hst2 hta htk hm1 hxa hqc
                        go_wp2_with fail
                        go_quiet (fail)
                        go_wp2_with fail
                        refine (stake_any w4.heap.size w4.heap.size cq al (some ⟨gq, offq, none⟩) st _ (HSQ6.out.drewN _) hst (by simpa using h6s) hml).mono ?_
                        rintro e w7 ⟨⟨v7, rfl⟩, A', c', hsq7, hb7⟩
                        have H7 := Lib.hid (And.intro hsq7 hb7)
                        clear hsq7 hb7
                        go_wp2_with fail
                        have HEA : Hid (st.take al ++ st.drop (al + 1) = a ++ b) := by
                          show _ = _
                          rw [HTA.out.1, ← HTA.out.2]
                          simp
                        have HQN : Hid (qSt (ss.take (k0 + 1)) = a ++ b) := by
                          show _ = _
                          rw [qSt_take HS.out, HSTE.out]
                          exact HQA.out.2
                        have HS11 : Hid (Value.int .i64 ((qPuts (ss.take k0)).length : Nat) = .int .i64 ((qPuts (ss.take (k0 + 1))).length : Nat)) := by
                          show _ = _
                          rw [List.take_add_one, HS.out, Option.toList_some, qPuts_snoc, if_neg (by simp), List.append_nil]
                        go_roundw
                        case rel =>
                          first
                            | exact ⟨k0 + 1, by omega, by go_num, HS11.out, L3.mk (HEA.out ▸ H7.out.1) (HB6.out.trans (below_undrewN H7.out.2)) HQN.out⟩
                            | ((repeat apply Exists.intro); refine ⟨?_, ?_⟩; rotate_left; (repeat (first | exact rfl | refine ⟨rfl, ?_⟩)); exact ⟨k0 + 1, by omega, by go_num, HS11.out, L3.mk (HEA.out ▸ H7.out.1) (HB6.out.trans (below_undrewN H7.out.2)) HQN.out⟩)
                        case measure => simp [intOf]; omega
                    · have HSQW := Lib.hid (HSQ.out.alloc (.cells #[.int .i64 (3 : Nat), .int .u16 sq, .int .u32 tm] 45))
                      have HBW := Lib.hid (HBQ.out.alloc hwz (.cells #[.int .i64 (3 : Nat), .int .u16 sq, .int .u32 tm] 45))
                      have HSB : Hid (Blk (wr.alloc (.cells #[.int .i64 (3 : Nat), .int .u16 sq, .int .u32 tm] 45)) wr.heap.size 45 #[.int .i64 (3 : Nat), .int .u16 sq, .int .u32 tm]) := Blk.new _ _ _
                      have hwh' : ((3 : Nat) : Int) = 3 := rfl
                      have HXC : Hid (∀ j u, (I64n (qPuts ss))[j]? = some u → ∃ gx, X = some ⟨gx, 0, none⟩ ∧ (wr.alloc (.cells #[.int .i64 (3 : Nat), .int .u16 sq, .int .u32 tm] 45)).cell? ⟨gx, j, none⟩ = some u) := by
                        intro j' u hu
                        have hj' := (List.getElem?_eq_some_iff.1 hu).1
                        have hpos : 0 < j := by
                          have h1 := HX.out.1
                          omega
                        obtain ⟨gx, capx, hX, _, hgx⟩ := HX.out.form hpos
                        injection hX with hX _ _
                        refine ⟨gx, hX, ?_⟩
                        rw [HBW.out.cell (p := ⟨gx, j', none⟩) (by show gx < _; omega), HB4.out.cell (p := ⟨gx, j', none⟩) (by show gx < _; omega)]
                        subst hX
                        have h := HX.out.cells (g := gx) rfl j' u hu
                        have hadd : (⟨gx, 0, none⟩ : Addr).add j' = ⟨gx, j', none⟩ := by unfold Addr.add; split <;> simp_all
                        rwa [hadd] at h
                      have HGW : Hid (∀ j u, (anL (qOut ss))[j]? = some u → (wr.alloc (.cells #[.int .i64 (3 : Nat), .int .u16 sq, .int .u32 tm] 45)).cell? ⟨ga4, j, none⟩ = some u) :=
                        fun j u hu => (World.cell?_of_block (a := ⟨ga4, j, none⟩) (Below.heap_alloc wr _ ga4 (by omega))).trans (HGOT.out j u hu)
                      clear hwh'
                      go_upto_region 39 with fail
                      generalize hW : wr.alloc (.cells #[.int .i64 (3 : Nat), .int .u16 sq, .int .u32 tm] 45) = W at *
                      clear hW y0 y1 y2
                      generalize wr.heap.size = sb at *
                      have t0 := HSB.out.cell 0
                      have t1 := HSB.out.cell 1
                      have t2 := HSB.out.cell 2
                      simp at t0 t1 t2
                      have cqh : W.cell? ⟨w4.heap.size, 0, none⟩ = some (.slice Q st.length cq) := HSQW.out.head.cell 0
                      have hBWs := HBW.out.size
                      go_wp2_with fail
                      refine (stime_any w4.heap.size w4.heap.size cq tm Q st W HSQW.out hst HF.out.2.1).mono ?_
                      rintro e w6 ⟨hb6, ho⟩
                      have HSQ6 := Lib.hid (HSQW.out.below hb6)
                      have HB6 := Lib.hid (HBW.out.trans (hb6.mono hBWs))
                      have HG6 : Hid (∀ j u, (anL (qOut ss))[j]? = some u → w6.cell? ⟨ga4, j, none⟩ = some u) := fun j u hu => (hb6.cell (p := ⟨ga4, j, none⟩) (by show ga4 < _; omega)).trans (HGW.out j u hu)
                      have hlt45 := HSB.out.lt
                      have v0 := (hb6.cell (p := ⟨sb, 0, none⟩) hlt45).trans t0
                      have c6h : w6.cell? ⟨w4.heap.size, 0, none⟩ = some (.slice Q st.length cq) := HSQ6.out.head.cell 0
                      clear hb6 cqh t0 t1 t2
                      rcases ho with ⟨rfl, hno⟩ | ⟨a, x, b, e1, e2, rfl⟩
                      · have HO := Lib.hid hno
                        clear hno
                        have HQA : Hid (qAns ⟨3, sq, tm⟩ st = ⟨false, 0, 0⟩ ∧ qNext ⟨3, sq, tm⟩ st = st) := by
                          show _ ∧ _
                          constructor
                          · show anOf (Option.map Prod.fst (qTake ⟨3, sq, tm⟩ st)) = _
                            rw [show qTake ⟨3, sq, tm⟩ st = none from HO.out]
                            rfl
                          · show restOf st (qTake ⟨3, sq, tm⟩ st) = _
                            rw [show qTake ⟨3, sq, tm⟩ st = none from HO.out]
                            rfl
                        have hgo := qOut_get HS.out
                        rw [HSTE.out] at hgo
                        obtain ⟨ag0, ag1, ag2⟩ := anL_at hgo
                        have gc0 := HG6.out _ _ ag0
                        have gc1 := HG6.out _ _ ag1
                        clear ag0 ag1 ag2 hgo
                        rw [HQA.out.1] at gc0 gc1
                        simp only at gc0 gc1
                        go_wp2_with fail
                        go_quiet (fail)
                        go_wp2_with fail
                        have HQN : Hid (qSt (ss.take (k0 + 1)) = st) := by
                          show _ = _
                          rw [qSt_take HS.out, HSTE.out]
                          exact HQA.out.2
                        have HS11 : Hid (Value.int .i64 ((qPuts (ss.take k0)).length : Nat) = .int .i64 ((qPuts (ss.take (k0 + 1))).length : Nat)) := by
                          show _ = _
                          rw [List.take_add_one, HS.out, Option.toList_some, qPuts_snoc, if_neg (by simp), List.append_nil]
                        go_roundw
                        case rel =>
                          first
                            | exact ⟨k0 + 1, by omega, by go_num, HS11.out, L3.mk (HSQ6.out.drewN _) (below_drewN HB6.out _) HQN.out⟩
                            | ((repeat apply Exists.intro); refine ⟨?_, ?_⟩; rotate_left; (repeat (first | exact rfl | refine ⟨rfl, ?_⟩)); exact ⟨k0 + 1, by omega, by go_num, HS11.out, L3.mk (HSQ6.out.drewN _) (below_drewN HB6.out _) HQN.out⟩)
                        case measure => simp [intOf]; omega
                      · have HO : Hid (∃ a' x b, st = a' ++ x :: b ∧ takeBy (fun x => decide (x.t = tm)) st = some (x, a' ++ b) ∧ a'.length = a.length) := ⟨a, x, b, e1, e2, rfl⟩
                        have HO : Hid (∃ a' x b, st = a' ++ x :: b ∧ takeBy (fun x => decide (x.t = tm)) st = some (x, a' ++ b) ∧ a'.length = a.length) := HO
                        generalize a.length = al at *
                        clear e1 e2
                        obtain ⟨a, x, b, hst2, hta, htk⟩ := HO.out
                        have HQA : Hid (qAns ⟨3, sq, tm⟩ st = ⟨true, x.n, 0⟩ ∧ qNext ⟨3, sq, tm⟩ st = a ++ b) := by
                          show _ ∧ _
                          constructor
                          · show anOf (Option.map Prod.fst (qTake ⟨3, sq, tm⟩ st)) = _
                            rw [show qTake ⟨3, sq, tm⟩ st = some (x, a ++ b) from hta]
                            rfl
                          · show restOf st (qTake ⟨3, sq, tm⟩ st) = _
                            rw [show qTake ⟨3, sq, tm⟩ st = some (x, a ++ b) from hta]
                            rfl
                        have hgo := qOut_get HS.out
                        rw [HSTE.out] at hgo
                        obtain ⟨ag0, ag1, ag2⟩ := anL_at hgo
                        have gc0 := HG6.out _ _ ag0
                        have gc1 := HG6.out _ _ ag1
                        clear ag0 ag1 ag2 hgo
                        rw [HQA.out.1] at gc0 gc1
                        simp only at gc0 gc1
                        have hm1 : a.length = al := htk
                        have hml : al < st.length := by rw [hst2, ← hm1]; simp
                        have hxa : st[al]? = some x := by rw [hst2, ← hm1]; simp
                        have hx16 := u16_self x.n (HF.out.2.1 x (List.mem_of_getElem? hxa))
                        obtain ⟨gq, offq, hQ, _, _, hqc⟩ := HSQ6.out.own.lits (by omega)
                        subst hQ
                        have qc0 := hqc _ _ (itCells_at hxa).1
                        have hmi : (al : Int) < (st.length : Int) := by omega
                        have h6s : w4.heap.size ≤ w6.heap.size := HB6.out.size
                        have HTA := Lib.hid (And.intro hst2 hm1)
                        clear hst2 hta htk hm1 hxa hqc
                        go_wp2_with fail
                        go_quiet (fail)
                        go_wp2_with fail
                        refine (stake_any w4.heap.size w4.heap.size cq al (some ⟨gq, offq, none⟩) st _ (HSQ6.out.drewN _) hst (by simpa using h6s) hml).mono ?_
                        rintro e w7 ⟨⟨v7, rfl⟩, A', c', hsq7, hb7⟩
                        have H7 := Lib.hid (And.intro hsq7 hb7)
                        clear hsq7 hb7
                        go_wp2_with fail
                        have HEA : Hid (st.take al ++ st.drop (al + 1) = a ++ b) := by
                          show _ = _
                          rw [HTA.out.1, ← HTA.out.2]
                          simp
                        have HQN : Hid (qSt (ss.take (k0 + 1)) = a ++ b) := by
                          show _ = _
                          rw [qSt_take HS.out, HSTE.out]
                          exact HQA.out.2
                        have HS11 : Hid (Value.int .i64 ((qPuts (ss.take k0)).length : Nat) = .int .i64 ((qPuts (ss.take (k0 + 1))).length : Nat)) := by
                          show _ = _
                          rw [List.take_add_one, HS.out, Option.toList_some, qPuts_snoc, if_neg (by simp), List.append_nil]
                        go_roundw
                        case rel =>
                          first
                            | exact ⟨k0 + 1, by omega, by go_num, HS11.out, L3.mk (HEA.out ▸ H7.out.1) (HB6.out.trans (below_undrewN H7.out.2)) HQN.out⟩
                            | ((repeat apply Exists.intro); refine ⟨?_, ?_⟩; rotate_left; (repeat (first | exact rfl | refine ⟨rfl, ?_⟩)); exact ⟨k0 + 1, by omega, by go_num, HS11.out, L3.mk (HEA.out ▸ H7.out.1) (HB6.out.trans (below_undrewN H7.out.2)) HQN.out⟩)
                        case measure => simp [intOf]; omega
                    · have HSQW := Lib.hid (HSQ.out.alloc (.cells #[.int .i64 (4 : Nat), .int .u16 sq, .int .u32 tm] 45))
                      have HBW := Lib.hid (HBQ.out.alloc hwz (.cells #[.int .i64 (4 : Nat), .int .u16 sq, .int .u32 tm] 45))
                      have HSB : Hid (Blk (wr.alloc (.cells #[.int .i64 (4 : Nat), .int .u16 sq, .int .u32 tm] 45)) wr.heap.size 45 #[.int .i64 (4 : Nat), .int .u16 sq, .int .u32 tm]) := Blk.new _ _ _
                      have hwh' : ((4 : Nat) : Int) = 4 := rfl
                      have HXC : Hid (∀ j u, (I64n (qPuts ss))[j]? = some u → ∃ gx, X = some ⟨gx, 0, none⟩ ∧ (wr.alloc (.cells #[.int .i64 (4 : Nat), .int .u16 sq, .int .u32 tm] 45)).cell? ⟨gx, j, none⟩ = some u) := by
                        intro j' u hu
                        have hj' := (List.getElem?_eq_some_iff.1 hu).1
                        have hpos : 0 < j := by
                          have h1 := HX.out.1
                          omega
                        obtain ⟨gx, capx, hX, _, hgx⟩ := HX.out.form hpos
                        injection hX with hX _ _
                        refine ⟨gx, hX, ?_⟩
                        rw [HBW.out.cell (p := ⟨gx, j', none⟩) (by show gx < _; omega), HB4.out.cell (p := ⟨gx, j', none⟩) (by show gx < _; omega)]
                        subst hX
                        have h := HX.out.cells (g := gx) rfl j' u hu
                        have hadd : (⟨gx, 0, none⟩ : Addr).add j' = ⟨gx, j', none⟩ := by unfold Addr.add; split <;> simp_all
                        rwa [hadd] at h
                      have HGW : Hid (∀ j u, (anL (qOut ss))[j]? = some u → (wr.alloc (.cells #[.int .i64 (4 : Nat), .int .u16 sq, .int .u32 tm] 45)).cell? ⟨ga4, j, none⟩ = some u) :=
                        fun j u hu => (World.cell?_of_block (a := ⟨ga4, j, none⟩) (Below.heap_alloc wr _ ga4 (by omega))).trans (HGOT.out j u hu)
                      clear hwh'
                      go_upto_region 37 with fail
                      generalize hW : wr.alloc (.cells #[.int .i64 (4 : Nat), .int .u16 sq, .int .u32 tm] 45) = W at *
                      clear hW y0 y1 y2
                      generalize wr.heap.size = sb at *
                      have t0 := HSB.out.cell 0
                      have t1 := HSB.out.cell 1
                      have t2 := HSB.out.cell 2
                      simp at t0 t1 t2
                      have cqh : W.cell? ⟨w4.heap.size, 0, none⟩ = some (.slice Q st.length cq) := HSQW.out.head.cell 0
                      have hBWs := HBW.out.size
                      go_wp2_with fail
                      refine (sfind_any w4.heap.size w4.heap.size cq sq Q st W HSQW.out hst HF.out.2.1).mono ?_
                      rintro e w6 ⟨hb6, ho⟩
                      have HSQ6 := Lib.hid (HSQW.out.below hb6)
                      have HB6 := Lib.hid (HBW.out.trans (hb6.mono hBWs))
                      have HG6 : Hid (∀ j u, (anL (qOut ss))[j]? = some u → w6.cell? ⟨ga4, j, none⟩ = some u) := fun j u hu => (hb6.cell (p := ⟨ga4, j, none⟩) (by show ga4 < _; omega)).trans (HGW.out j u hu)
                      have hlt45 := HSB.out.lt
                      have v0 := (hb6.cell (p := ⟨sb, 0, none⟩) hlt45).trans t0
                      have c6h : w6.cell? ⟨w4.heap.size, 0, none⟩ = some (.slice Q st.length cq) := HSQ6.out.head.cell 0
                      clear hb6 cqh t0 t1 t2
                      rcases ho with ⟨rfl, hno⟩ | ⟨a, x, b, e1, e2, rfl⟩
                      · have HO := Lib.hid hno
                        clear hno
                        have HQA : Hid (qAns ⟨4, sq, tm⟩ st = ⟨false, 0, 0⟩ ∧ qNext ⟨4, sq, tm⟩ st = st) := by
                          show _ ∧ _
                          constructor
                          · show anOf (Option.map Prod.fst (qTake ⟨4, sq, tm⟩ st)) = _
                            rw [show qTake ⟨4, sq, tm⟩ st = none from HO.out]
                            rfl
                          · rfl
                        have hgo := qOut_get HS.out
                        rw [HSTE.out] at hgo
                        obtain ⟨ag0, ag1, ag2⟩ := anL_at hgo
                        have gc0 := HG6.out _ _ ag0
                        have gc1 := HG6.out _ _ ag1
                        clear ag0 ag1 ag2 hgo
                        rw [HQA.out.1] at gc0 gc1
                        simp only at gc0 gc1
                        go_wp2_with fail
                        go_quiet (fail)
                        go_wp2_with fail
                        have HQN : Hid (qSt (ss.take (k0 + 1)) = st) := by
                          show _ = _
                          rw [qSt_take HS.out, HSTE.out]
                          exact HQA.out.2
                        have HS11 : Hid (Value.int .i64 ((qPuts (ss.take k0)).length : Nat) = .int .i64 ((qPuts (ss.take (k0 + 1))).length : Nat)) := by
                          show _ = _
                          rw [List.take_add_one, HS.out, Option.toList_some, qPuts_snoc, if_neg (by simp), List.append_nil]
                        go_roundw
                        case rel =>
                          first
                            | exact ⟨k0 + 1, by omega, by go_num, HS11.out, L3.mk (HSQ6.out.drewN _) (below_drewN HB6.out _) HQN.out⟩
                            | ((repeat apply Exists.intro); refine ⟨?_, ?_⟩; rotate_left; (repeat (first | exact rfl | refine ⟨rfl, ?_⟩)); exact ⟨k0 + 1, by omega, by go_num, HS11.out, L3.mk (HSQ6.out.drewN _) (below_drewN HB6.out _) HQN.out⟩)
                        case measure => simp [intOf]; omega
                      · have HO : Hid (∃ a' x b, st = a' ++ x :: b ∧ takeBy (fun x => decide (x.n = sq)) st = some (x, a' ++ b) ∧ a'.length = a.length) := ⟨a, x, b, e1, e2, rfl⟩
                        have HO : Hid (∃ a' x b, st = a' ++ x :: b ∧ takeBy (fun x => decide (x.n = sq)) st = some (x, a' ++ b) ∧ a'.length = a.length) := HO
                        generalize a.length = al at *
                        clear e1 e2
                        obtain ⟨a, x, b, hst2, hta, htk⟩ := HO.out
                        have HQA : Hid (qAns ⟨4, sq, tm⟩ st = ⟨true, x.n, 0⟩ ∧ qNext ⟨4, sq, tm⟩ st = st) := by
                          show _ ∧ _
                          constructor
                          · show anOf (Option.map Prod.fst (qTake ⟨4, sq, tm⟩ st)) = _
                            rw [show qTake ⟨4, sq, tm⟩ st = some (x, a ++ b) from hta]
                            rfl
                          · rfl
                        have hgo := qOut_get HS.out
                        rw [HSTE.out] at hgo
                        obtain ⟨ag0, ag1, ag2⟩ := anL_at hgo
                        have gc0 := HG6.out _ _ ag0
                        have gc1 := HG6.out _ _ ag1
                        clear ag0 ag1 ag2 hgo
                        rw [HQA.out.1] at gc0 gc1
                        simp only at gc0 gc1
                        have hm1 : a.length = al := htk
                        have hml : al < st.length := by rw [hst2, ← hm1]; simp
                        have hxa : st[al]? = some x := by rw [hst2, ← hm1]; simp
                        have hx16 := u16_self x.n (HF.out.2.1 x (List.mem_of_getElem? hxa))
                        obtain ⟨gq, offq, hQ, _, _, hqc⟩ := HSQ6.out.own.lits (by omega)
                        subst hQ
                        have qc0 := hqc _ _ (itCells_at hxa).1
                        have hmi : (al : Int) < (st.length : Int) := by omega
                        have h6s : w4.heap.size ≤ w6.heap.size := HB6.out.size
                        have HTA := Lib.hid (And.intro hst2 hm1)
                        clear hst2 hta htk hm1 hxa hqc
                        go_wp2_with fail
                        go_quiet (fail)
                        go_wp2_with fail
                        have HQN : Hid (qSt (ss.take (k0 + 1)) = st) := by
                          show _ = _
                          rw [qSt_take HS.out, HSTE.out]
                          exact HQA.out.2
                        have HS11 : Hid (Value.int .i64 ((qPuts (ss.take k0)).length : Nat) = .int .i64 ((qPuts (ss.take (k0 + 1))).length : Nat)) := by
                          show _ = _
                          rw [List.take_add_one, HS.out, Option.toList_some, qPuts_snoc, if_neg (by simp), List.append_nil]
                        go_roundw
                        case rel =>
                          first
                            | exact ⟨k0 + 1, by omega, by go_num, HS11.out, L3.mk (HSQ6.out.drewN _) (below_drewN HB6.out _) HQN.out⟩
                            | ((repeat apply Exists.intro); refine ⟨?_, ?_⟩; rotate_left; (repeat (first | exact rfl | refine ⟨rfl, ?_⟩)); exact ⟨k0 + 1, by omega, by go_num, HS11.out, L3.mk (HSQ6.out.drewN _) (below_drewN HB6.out _) HQN.out⟩)
                        case measure => simp [intOf]; omega
                    · have HSQW := Lib.hid (HSQ.out.alloc (.cells #[.int .i64 (5 : Nat), .int .u16 sq, .int .u32 tm] 45))
                      have HBW := Lib.hid (HBQ.out.alloc hwz (.cells #[.int .i64 (5 : Nat), .int .u16 sq, .int .u32 tm] 45))
                      have HSB : Hid (Blk (wr.alloc (.cells #[.int .i64 (5 : Nat), .int .u16 sq, .int .u32 tm] 45)) wr.heap.size 45 #[.int .i64 (5 : Nat), .int .u16 sq, .int .u32 tm]) := Blk.new _ _ _
                      have hwh' : ((5 : Nat) : Int) = 5 := rfl
                      have HXC : Hid (∀ j u, (I64n (qPuts ss))[j]? = some u → ∃ gx, X = some ⟨gx, 0, none⟩ ∧ (wr.alloc (.cells #[.int .i64 (5 : Nat), .int .u16 sq, .int .u32 tm] 45)).cell? ⟨gx, j, none⟩ = some u) := by
                        intro j' u hu
                        have hj' := (List.getElem?_eq_some_iff.1 hu).1
                        have hpos : 0 < j := by
                          have h1 := HX.out.1
                          omega
                        obtain ⟨gx, capx, hX, _, hgx⟩ := HX.out.form hpos
                        injection hX with hX _ _
                        refine ⟨gx, hX, ?_⟩
                        rw [HBW.out.cell (p := ⟨gx, j', none⟩) (by show gx < _; omega), HB4.out.cell (p := ⟨gx, j', none⟩) (by show gx < _; omega)]
                        subst hX
                        have h := HX.out.cells (g := gx) rfl j' u hu
                        have hadd : (⟨gx, 0, none⟩ : Addr).add j' = ⟨gx, j', none⟩ := by unfold Addr.add; split <;> simp_all
                        rwa [hadd] at h
                      have HGW : Hid (∀ j u, (anL (qOut ss))[j]? = some u → (wr.alloc (.cells #[.int .i64 (5 : Nat), .int .u16 sq, .int .u32 tm] 45)).cell? ⟨ga4, j, none⟩ = some u) :=
                        fun j u hu => (World.cell?_of_block (a := ⟨ga4, j, none⟩) (Below.heap_alloc wr _ ga4 (by omega))).trans (HGOT.out j u hu)
                      clear hwh'
                      go_upto_region 41 with fail
                      generalize hW : wr.alloc (.cells #[.int .i64 (5 : Nat), .int .u16 sq, .int .u32 tm] 45) = W at *
                      clear hW y0 y1 y2
                      generalize wr.heap.size = sb at *
                      have t0 := HSB.out.cell 0
                      have t1 := HSB.out.cell 1
                      have t2 := HSB.out.cell 2
                      simp at t0 t1 t2
                      have cqh : W.cell? ⟨w4.heap.size, 0, none⟩ = some (.slice Q st.length cq) := HSQW.out.head.cell 0
                      have hBWs := HBW.out.size
                      have HSQ6 := HSQW
                      have HB6 := HBW
                      have HG6 := HGW
                      have hgo := qOut_get HS.out
                      rw [HSTE.out] at hgo
                      obtain ⟨ag0, ag1, ag2⟩ := anL_at hgo
                      have gc2 := HG6.out _ _ ag2
                      clear ag0 ag1 ag2 hgo
                      rw [show qAns ⟨5, sq, tm⟩ st = ⟨true, 0, st.length⟩ from rfl] at gc2
                      simp only at gc2
                      go_quiet (fail)
                      go_wp2_with fail
                      have HQN : Hid (qSt (ss.take (k0 + 1)) = st) := by
                        show _ = _
                        rw [qSt_take HS.out, HSTE.out]
                        exact rfl
                      have HS11 : Hid (Value.int .i64 ((qPuts (ss.take k0)).length : Nat) = .int .i64 ((qPuts (ss.take (k0 + 1))).length : Nat)) := by
                        show _ = _
                        rw [List.take_add_one, HS.out, Option.toList_some, qPuts_snoc, if_neg (by simp), List.append_nil]
                      go_roundw
                      case rel =>
                        first
                          | exact ⟨k0 + 1, by omega, by go_num, HS11.out, L3.mk (HSQ6.out.drewN _) (below_drewN HB6.out _) HQN.out⟩
                          | ((repeat apply Exists.intro); refine ⟨?_, ?_⟩; rotate_left; (repeat (first | exact rfl | refine ⟨rfl, ?_⟩)); exact ⟨k0 + 1, by omega, by go_num, HS11.out, L3.mk (HSQ6.out.drewN _) (below_drewN HB6.out _) HQN.out⟩)
                      case measure => simp [intOf]; omega
                  · have HI := Lib.hid hinv.out
                    clear hinv
                    go_wp2_with fail
                    refine (works_true _).mono ?_
                    rintro e w5 ⟨rfl, hb5⟩
                    have HB5 := Lib.hid hb5
                    clear hb5
                    go_wp2_with fail
                    go_ret
                    obtain ⟨_, _, _, hbz⟩ := HI.out
                    exact ⟨rfl, HFIN.out _ hbz _ HB5.out⟩
end Go.Proofs.Ytlkmmkphpiamcaa
