/-
  impl.Feedbacks' closure: the walk. Conditions: at most two batches, all numbers within 200, none twice. By an AI agent.
-/
import Derived.Test.YtlkmmkphpiamcaaBc
namespace Go.Proofs.Ytlkmmkphpiamcaa
open Go.RowKit

theorem info_outs : (Try.prog.info? 71).map (fun i => (i.zero, i.size, i.bytes)) = some (some (.slice none 0 0), 1, 24) := by kernel_rfl
/-- The closure's boxes. -/
structure Boxes (w : World) (bl ba br bm bo r m c1 c2 : Nat) (Al Aa : Option Addr) (sd md : Int) : Prop where
  l : Blk w bl 78 #[.slice Al m c1]
  a : Blk w ba 79 #[.slice Aa m c2]
  rp : Blk w br 114 #[.pointer (some ⟨r, 0, none⟩)]
  md : Blk w bm 43 #[.int .u32 md]
  o : Blk w bo 76 #[.slice none 0 0]
  rec_ : Blk w r 154 (recC (.slice none 0 0) 0 0 (restC false 0 none sd 0 0 0))
theorem Boxes.cells {w wr : World} {bl ba br bm bo r m c1 c2 : Nat} {Al Aa : Option Addr} {sd md : Int} (h : Boxes w bl ba br bm bo r m c1 c2 Al Aa sd md) (ht : Touch (fun q => q = r ∨ q = bo) w wr) :
    wr.cell? ⟨bl, 0, none⟩ = some (.slice Al m c1) ∧ wr.cell? ⟨ba, 0, none⟩ = some (.slice Aa m c2) ∧ wr.cell? ⟨br, 0, none⟩ = some (.pointer (some ⟨r, 0, none⟩)) ∧ wr.cell? ⟨bm, 0, none⟩ = some (.int .u32 md) := by
  have key : ∀ q t cs, Blk w q t cs → t ≠ 154 → t ≠ 76 → Blk wr q t cs := fun q t cs hq h1 h2 => hq.touch ht fun hh => by
    rcases hh with rfl | rfl
    · exact h1 (kindOf hq h.rec_)
    · exact h2 (kindOf hq h.o)
  exact ⟨(key _ _ _ h.l (by decide) (by decide)).cell 0, (key _ _ _ h.a (by decide) (by decide)).cell 0, (key _ _ _ h.rp (by decide) (by decide)).cell 0, (key _ _ _ h.md (by decide) (by decide)).cell 0⟩

theorem CI.mid {w0 w wr w2 : World} {r bo lo : Nat} {sd md : Int} {bs : List (List (Nat × Int))} {i : Nat} {v : Value} {outs : List (Value × List Rp)} {g0 p0 cnt base p : Nat} (h : CI w0 w r bo lo sd md bs i v outs) (hs : CS w0 w r bo lo sd md bs i outs g0 p0 cnt base)
    (ht : Touch (fun q => q = r ∨ q = g0 ∨ q = p0) w wr) (hp : p = p0 ∨ w.heap.size ≤ p) (hT : Touch (fun q => q = r ∨ q = p) wr w2) : Blk w2 bo 76 #[v] ∧ w2.ownsRow w0.heap.size 71 1 v i (outs.map Prod.fst) := by
  have T12 : Touch (fun q => q = r ∨ q = g0 ∨ q = p0) w w2 := ht.trans hT fun q hq hh => by
    rcases hh with rfl | rfl
    · exact .inl rfl
    · rcases hp with rfl | hp
      · exact .inr (.inr rfl)
      · omega
  exact ⟨h.box.touch T12 fun hh => by rcases hs.kd bo _ _ h.box hh with h | h <;> exact absurd h (by decide), own_kinds h.own T12 fun q cs hq hh => by rcases hs.kd q _ cs hq hh with h | h <;> exact absurd h (by decide)⟩
theorem take_flat {bs : List (List (Nat × Int))} {i n : Nat} {bt : List (Nat × Int)} (hi : bs[i]? = some bt) (hn : bt.length = n) : (bs.take i).flatten ++ bt.take n = (bs.take (i + 1)).flatten := by
  have e : bt.take n = bt := List.take_of_length_le (by omega)
  rw [e, List.take_add_one, hi]
  simp

theorem reports_len (base c : Nat) (A : Option Addr) (pks : List (Nat × Rp)) (w : World) (ho : OwnsAt w base 160 1 (.slice A pks.length c) pks.length (pks.map pkCell)) (hp : ∀ p ∈ pks, PkAt w p) (hn : pks.length ≤ 1000) :
    Calls Try.prog 59 #[.slice A pks.length c] w fun e w' => ∃ A3 c3, e = .returned (.slice A3 pks.length c3) ∧ RepsAt w' w.heap.size (.slice A3 pks.length c3) (pks.map Prod.snd) ∧ Below w.heap.size w w' := by
  refine (reports_any base c pks.length A pks w ho hp hn).mono ?_
  rintro e w' ⟨A3, c3, rfl, h1, h2⟩
  rw [List.length_map] at h1 ⊢
  exact ⟨A3, c3, rfl, h1, h2⟩

set_option maxRecDepth 1000000 in
set_option maxHeartbeats 4000000 in
theorem fb_closure (bl ba br bm bo r lo m c1 c2 B : Nat) (Al Aa : Option Addr) (bs : List (List (Nat × Int))) (sd md : Int) (w : World) (hx : Boxes w bl ba br bm bo r m c1 c2 Al Aa sd md)
    (hB : Bats w B Al Aa bs) (hBr : B ≤ r) (hBo : B ≤ bo) (hm : bs.length = m) (hm2 : m ≤ 2) (hc1 : m ≤ c1) (hok : BatsOk lo bs) :
    Calls Try.prog 57 #[.pointer (some ⟨bl, 0, none⟩), .pointer (some ⟨ba, 0, none⟩), .pointer (some ⟨br, 0, none⟩), .pointer (some ⟨bm, 0, none⟩), .pointer (some ⟨bo, 0, none⟩)] w fun e w' => e = .returned (.tuple #[]) ∧ ∃ v outs, CI w w' r bo lo sd md bs m v outs := by
  obtain ⟨i0, hi0, hz0, hz1, hz2⟩ := info_parts info_outs
  obtain ⟨z1, z2, z3, z4⟩ := hx.cells (Touch.refl _ w)
  have HI0 : Hid (CI w w r bo lo sd md bs 0 (.slice none 0 0) []) := ⟨rfl, hx.o, World.ownsRow_nil _ _ _ _, Touch.refl _ _, ⟨w.heap.size, Nat.le_refl _, by simp, .inl ⟨rfl, hx.rec_⟩⟩, by simp, by simp, by simp⟩
  have hrlt := hx.rec_.lt
  have holt := hx.o.lt
  have HX := Lib.hid hx
  have HB := Lib.hid hB
  have HM := Lib.hid hm
  have HOK := Lib.hid hok
  clear hx hB hm hok
  go_enter Try.func57, Try.ntmps57
  go_wp2_with fail
  clear z1 z2 z3 z4
  go_loopw [17] (fun u wr => ∃ (i : Nat) (v : Value) (outs : List (Value × List Rp)), i ≤ m ∧ u = .int .i64 (i : Int) ∧ Hid (CI w wr r bo lo sd md bs i v outs)) (fun u _ => m - (intOf u).toNat)
  case atStart => exact ⟨0, _, [], Nat.zero_le _, rfl, HI0⟩
  case round =>
    obtain ⟨i, v, outs, hi, rfl, hci⟩ := hrel
    obtain ⟨W, hW⟩ : ∃ W, W = wr := ⟨_, rfl⟩
    subst hW
    by_cases hlt : i < m
    · obtain ⟨bt, hbt⟩ : ∃ bt, bs[i]? = some bt := ⟨_, List.getElem?_eq_getElem (by rw [HM.out]; exact hlt)⟩
      obtain ⟨al, aa, P, c, Q, d, rfl, rfl, hal, haa, e1, e2, hnc, hnd, hP, hQ⟩ := HB.out i bt hbt
      have HBB : Hid (∀ W', Touch (fun q => q = r ∨ q = bo) w W' → Below B w W') := fun W' ht => ht.below (by omega) fun j hj hh => by omega
      have HE1 := Lib.hid (And.intro e1 e2)
      have HAA := Lib.hid (And.intro hal haa)
      replace e1 := ((HBB.out W hci.out.all).cell (p := al.add i) (by rw [addr_block]; exact hal)).trans e1
      replace e2 := ((HBB.out W hci.out.all).cell (p := aa.add i) (by rw [addr_block]; exact haa)).trans e2
      obtain ⟨g0, p0, cnt, base, hs⟩ := hci.out.start
      obtain ⟨z1, z2, z3, z4⟩ := HX.out.cells hci.out.all
      obtain ⟨n, hn⟩ : ∃ n, bt.length = n := ⟨_, rfl⟩
      rw [hn] at e1 e2 hnc hnd hP hQ HE1
      have hn1 := HOK.out.ne bt (List.mem_of_getElem? hbt)
      rw [hn] at hn1
      have HS := Lib.hid hs
      have HN := Lib.hid hn
      have HBT := Lib.hid hbt
      have HP := Lib.hid hP
      have HQ := Lib.hid hQ
      have HNE := Lib.hid hn1.1
      have hn100 := hn1.2
      clear hs hn hbt hP hQ hn1 hal haa
      go_wp2_with fail
      go_loopw [33] (fun u wr2 => ∃ k : Nat, k ≤ n ∧ u = .int .i64 (k : Int) ∧ Hid (II w W wr2 r bo lo ((bs.take i).flatten ++ bt.take k) sd md i cnt k g0 p0)) (fun u _ => n - (intOf u).toNat)
      case atStart => exact ⟨0, Nat.zero_le _, rfl, by have h := HS.out.ii; rw [List.take_zero, List.append_nil]; exact h⟩
      case round =>
        obtain ⟨k, hk, rfl, hii⟩ := hrel
        by_cases hlt2 : k < n
        · obtain ⟨⟨x, t⟩, hp⟩ : ∃ q, bt[k]? = some q := ⟨_, List.getElem?_eq_getElem (by rw [HN.out]; exact hlt2)⟩
          obtain ⟨f1, f2, f3⟩ := HOK.out.facts HBT.out hp
          simp only at f1 f2 f3
          have hb := HBB.out wr hii.out.all
          obtain ⟨pa, u1, rfl, hpa, hu1, y1⟩ := (HP.out.below hb).at1 hlt2
          obtain ⟨qa, u2, rfl, hqa, hu2, y2⟩ := (HQ.out.below hb).at1 hlt2
          rw [seqs, List.getElem?_map, hp] at hu1
          rw [times, List.getElem?_map, hp] at hu2
          simp only [Option.map_some, Option.some.injEq] at hu1 hu2
          subst hu1 hu2
          have HREC := Lib.hid (hii.out.drew.rec_ (x := x) (t := t) f1 ⟨f2.1, f2.2.1⟩ f2.2.2 f3 (by omega) HOK.out.small)
          obtain ⟨x16, hx16⟩ : ∃ x16, x % 65536 = x16 := ⟨_, rfl⟩
          rw [hx16] at HREC y1
          have HQA := Lib.hid hqa
          have HSK : Hid (∀ W', Touch (fun q => q = r ∨ q = bo) w W' → (W'.cell? ⟨br, 0, none⟩ = some (.pointer (some ⟨r, 0, none⟩)) ∧ W'.cell? ⟨bm, 0, none⟩ = some (.int .u32 md) ∧ W'.cell? ⟨ba, 0, none⟩ = some (.slice (some aa) m c2) ∧ W'.cell? (aa.add i) = some (.slice (some qa) n d) ∧ W'.cell? (qa.add k) = some (.int .i64 t))) := by
            intro W' ht
            obtain ⟨k1, k2, k3, k4⟩ := HX.out.cells ht
            have hb' := HBB.out W' ht
            obtain ⟨qb, u3, hqb, _, hu3, y3⟩ := (HQ.out.below hb').at1 hlt2
            injection hqb with hqb
            subst hqb
            rw [times, List.getElem?_map, hp] at hu3
            simp only [Option.map_some, Option.some.injEq] at hu3
            subst hu3
            exact ⟨k3, k4, k2, (hb'.cell (p := aa.add i) (by rw [addr_block]; exact HAA.out.2)).trans HE1.out.2, y3⟩
          have HA := Lib.hid hii.out.all
          have HPK := Lib.hid hp
          clear f1 f2 f3 hb hpa hqa hx16 hp y2
          obtain ⟨s1, s2, s3, s4, s5⟩ := HSK.out wr HA.out
          go_upto_region 6 with fail
          apply wp_rel (fun w' => II w W w' r bo lo ((bs.take i).flatten ++ bt.take k ++ [(x, t)]) sd md i cnt (k + 1) g0 p0)
          · go_region_held3 (fun w' => w'.cell? ⟨br, 0, none⟩ = some (.pointer (some ⟨r, 0, none⟩)) ∧ w'.cell? ⟨bm, 0, none⟩ = some (.int .u32 md) ∧ w'.cell? ⟨ba, 0, none⟩ = some (.slice (some aa) m c2) ∧ w'.cell? (aa.add i) = some (.slice (some qa) n d) ∧ w'.cell? (qa.add k) = some (.int .i64 t)) (first | exact HSK.out _ HA.out.drew | exact HSK.out _ HI2.out.all) (first | (go_at_call 58; refine HREC.out.mono ?_; rintro v6 w6 ⟨rfl, hii2⟩; have HI2 := Lib.hid hii2; clear hii2))
            all_goals exact ⟨rfl, HI2.out⟩
          intro w6 hii6
          have HI6 : Hid (II w W w6 r bo lo ((bs.take i).flatten ++ bt.take (k + 1)) sd md i cnt (k + 1) g0 p0) := by
            have e : bt.take (k + 1) = bt.take k ++ [(x, t)] := by rw [List.take_add_one, HPK.out]; rfl
            rw [e, ← List.append_assoc]
            exact hii6
          clear hii6 s1 s2 s3 s4 s5
          go_wp2_with fail
          exact ⟨⟨k + 1, by omega, by go_num, HI6.out⟩, by simp [intOf]; omega⟩
        · obtain rfl : k = n := by omega
          obtain ⟨hrec0, _⟩ | ⟨g, C, b, e, F, p, s, L, hrok, hg, hpp, hE⟩ := hii.out.st
          · have hl : bt.take k = bt := List.take_of_length_le (by rw [HN.out]; exact Nat.le_refl _)
            rw [hl] at hrec0
            exact absurd (List.append_eq_nil_iff.1 hrec0).2 HNE.out
          · rw [take_flat HBT.out HN.out] at hrok hE
            obtain ⟨a1, a2, a3, a4⟩ := hrok.win
            have hsm := HOK.out.small
            have HBLD := Lib.hid (build_any r g C b e p s L F sd md cnt k wr.drew (hrok.rcd.drewN 1) a2 a3 (by omega) hrok.good HS.out.hc (by omega))
            obtain ⟨Av, cv, rfl⟩ := own_slice hci.out.own
            have HMID := Lib.hid (fun w2 hT => hci.out.mid HS.out (w2 := w2) hii.out.touch hpp hT)
            have y0 := ((HMID.out wr (Touch.refl _ _)).1).cell 0
            simp at y0
            have HNX := Lib.hid (fun w2 w3 w4 A c s' pks v' v4 o h1 h2 h3 h4 h5 => hci.out.next (w2 := w2) (w3 := w3) (w4 := w4) (A := A) (c := c) (s' := s') (pks := pks) (v' := v') (v4 := v4) (o := o) HS.out (by omega) holt hii.out.all hii.out.touch hrok hpp hE h1 h2 h3 h4 h5)
            have z3 := (HX.out.cells hii.out.all).2.2.1
            have HWN := Lib.hid (And.intro a2 (And.intro a3 a4))
            have HLO := Lib.hid (show lo ≤ s by omega)
            have HSZ := Lib.hid hii.out.all.size
            clear hrok hg hE hpp a1 a2 a3 a4 hsm
            go_upto_region 8 with fail
            go_region_law (first
              | (go_simp; go_at_call 60; refine HBLD.out.mono ?_; rintro v2 w2 ⟨A2, c2', pks, s', rfl, hb2⟩; have hmid := HMID.out w2 (Touch.undrew hb2.touch); have y2 : w2.cell? ⟨bo, 0, none⟩ = some (.slice Av i cv) := hmid.1.cell 0; have hpl : pks.length ≤ 200 := (by have h1 := hb2.ge; have h2 := hb2.le; have h3 := HWN.out; have h4 := HLO.out; omega); have HREP := Lib.hid (reports_len _ c2' A2 pks w2 hb2.own hb2.each (by omega)); have HB2 := Lib.hid hb2; have HM2 := Lib.hid hmid; have hs2 : w.heap.size ≤ w2.heap.size := Nat.le_trans HSZ.out (Nat.le_trans (Nat.le_refl _) hb2.touch.size); clear hb2 hmid)
              | (go_simp; go_at_call 59; refine HREP.out.mono ?_; rintro v3 w3 ⟨A3, c3, rfl, hr3, hbel3⟩; have t3 : Touch Nowhere w2 w3 := Touch.ofBelow hbel3 (fun j hj hh => by omega); have hbk3 := HM2.out.1.touch t3 (fun h => h); have hown3 := own_touch HM2.out.2 t3 (fun _ _ h => h); have y3 : w3.cell? ⟨bo, 0, none⟩ = some (.slice Av i cv) := hbk3.cell 0; have y3a : ∀ o, (w3.alloc o).cell? ⟨bo, 0, none⟩ = some (.slice Av i cv) := (fun o => (hbk3.alloc o).cell 0); have hne3 : some bo ≠ (Value.slice Av i cv).ownBlock := (fun h => by obtain ⟨cur, hc⟩ := (OwnsAt.ofRow hown3).kind h.symm; exact absurd (kindOf hbk3 hc) (by decide)); have HNE3 := Lib.hid hne3; clear hne3; have hs3 : w.heap.size ≤ w3.heap.size := Nat.le_trans hs2 hbel3.size; have HR3 := Lib.hid (And.intro hr3 hbel3); have HO3 := Lib.hid hown3; have HB3 := Lib.hid hbk3; clear hr3 hbel3 hown3 hbk3 t3)
              | (refine step_append_lies _ rfl (.tmp 50) (.tmp 54) 76 rfl w.heap.size 71 i0 _ 1 24 Try.underlying76 hi0 hz0 hz1 hz2 rfl (by decide) (.slice Av i cv) i _ rfl (HO3.out.alloc _) ⟨w3.heap.size, 0, none⟩ 1 1 [.slice A3 pks.length c3] rfl rfl (World.news_of_block (cs := #[.slice A3 pks.length c3]) (t := 71) (fr := (0, 0)) (heap_alloc_new w3 _)) (by simp [Value.oneCell']) (by omega) (by simp only [maxLen]; omega) (by omega) (by simp; omega) (w3.heap.size + 1) (by simp) ?_; intro gg cap w7 hown7 hgrow7 hat7 hlt7; have HO7 := Lib.hid hown7; have HG7 := Lib.hid hgrow7; have hb7 := (HB3.out.alloc _).grown hgrow7 HNE3.out; have y7 : w7.cell? ⟨bo, 0, none⟩ = some (.slice Av i cv) := hb7.cell 0; have z7 := hb7.free 0; clear hown7 hgrow7 hat7 hlt7 hb7))
            all_goals
              have HD := Lib.hid (HNX.out w2 w3 w7 A2 c2' s' pks (.slice A3 pks.length c3) _ _ HB2.out HR3.out.1 HR3.out.2 HG7.out HO7.out)
              clear HB2 HR3 HG7 HO7 HM2 HREP HO3 HB3 HNE3 y0 y2 y3 y3a y7 z7 z3
              go_wp2_with fail
              exact ⟨⟨i + 1, _, _, by omega, by go_num, HD.out⟩, by simp [intOf]; omega⟩
    · obtain rfl : i = m := by omega
      go_wp2_with fail
      go_end0
      exact ⟨rfl, v, outs, hci.out⟩
end Go.Proofs.Ytlkmmkphpiamcaa
