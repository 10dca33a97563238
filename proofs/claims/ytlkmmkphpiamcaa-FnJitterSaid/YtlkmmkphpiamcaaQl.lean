/-
  impl.Queue's closure: the rounds. Conditions: at most 60 calls. By an AI agent.
-/
import Derived.Test.YtlkmmkphpiamcaaQk
import Derived.Test.YtlkmmkphpiamcaaQd
import Derived.Test.YtlkmmkphpiamcaaQe
namespace Go.Proofs.Ytlkmmkphpiamcaa
open Go.RowKit

/-- At a loop's head. -/
def QInv (bo g k B : Nat) (ss : List Stp) (w0 wr : World) : Prop := ∃ ns v, QS bo g k B ss w0 wr ns v ∧ ns.map itOf = qSt (ss.take k)
theorem itOf_take (p : It → Bool) (q : Nd → Bool) (hpq : ∀ n, q n = p (itOf n)) (ns : List Nd) : takeBy p (ns.map itOf) = (takeBy q ns).map fun y => (itOf y.1, y.2.map itOf) := by
  rw [takeBy_map]
  congr 2
  funext n
  rw [hpq]
theorem itOf_ins (N : Nd) (ns : List Nd) : (insBy Nd.seq N ns).map itOf = insBy It.n (itOf N) (ns.map itOf) := insBy_map (k := It.n) itOf N ns
theorem popOf_take (ns : List Nd) : popOf ns = takeBy (fun _ => true) ns := by cases ns <;> rfl

set_option maxRecDepth 1000000 in
set_option maxHeartbeats 4000000 in
theorem queue_closure (bl bq bo g n c : Nat) (A : Option Addr) (ss : List Stp) (w : World)
    (hbl : Blk w bl 42 #[.slice A n c]) (hbq : Blk w bq 95 #[.pointer (some ⟨g, 0, none⟩)]) (hbo : Blk w bo 47 #[.slice none 0 0]) (hq : QAt w.heap.size w g [])
    (hr : StepsAt w w.heap.size A n ss) (hA : 0 < n → ∀ a, A = some a → a.block ≠ bo ∧ a.block ≠ g) (hn : n ≤ 60) (hss : ∀ s ∈ ss, s.what ≤ 5 ∧ s.seq ≤ 65535 ∧ s.time ≤ 4294967295) :
    Calls Try.prog 43 #[.pointer (some ⟨bl, 0, none⟩), .pointer (some ⟨bq, 0, none⟩), .pointer (some ⟨bo, 0, none⟩)] w
      fun e w' => e = .returned (.tuple #[]) ∧ QInv bo g n w.heap.size ss w w' := by
  obtain ⟨i0, hi0, hz0, hz1, hz2⟩ := info_parts info_an
  have cl : w.cell? ⟨bl, 0, none⟩ = some (.slice A n c) := hbl.cell 0
  have lo := hbo.lt
  have lq := hbq.lt
  have lg := hq.head.lt
  have dog : bo ≠ g := hbo.unlike hq.head (by decide)
  have dqo : bq ≠ bo := hbq.unlike hbo (by decide)
  have dqg : bq ≠ g := hbq.unlike hq.head (by decide)
  have HQ0 := Lib.hid (show QInv bo g 0 w.heap.size ss w w from ⟨[], .slice none 0 0, ⟨hbo, World.ownsRow_nil _ _ _ _, hq, Touch.refl _ _⟩, rfl⟩)
  have HBQ := Lib.hid hbq
  have HR := Lib.hid hr
  have HSS := Lib.hid hss
  have HA := Lib.hid hA
  have HLEN := Lib.hid hr.1
  clear hbl hbq hbo hq hr hss hA
  go_enter Try.func43, Try.ntmps43
  go_wp2_with fail
  clear cl
  go_loopw [8] (fun i wr => ∃ k : Nat, k ≤ n ∧ i = .int .i64 k ∧ Hid (QInv bo g k w.heap.size ss w wr)) (fun i _ => n - (intOf i).toNat)
  case atStart => exact ⟨0, by omega, rfl, HQ0⟩
  case round =>
    obtain ⟨k, hk, rfl, hinv⟩ := hrel
    by_cases hlt : k < n
    · obtain ⟨ns, v, hqs, hmap⟩ := hinv.out
      have hkl : k < ss.length := by rw [HLEN.out]; exact hlt
      obtain ⟨s, hs⟩ : ∃ s, ss[k]? = some s := ⟨_, List.getElem?_eq_getElem hkl⟩
      obtain ⟨ga, off, hA, hab, hcell⟩ := HR.out.2 (by omega)
      have hga := HA.out (by omega) _ hA
      subst hA
      obtain ⟨s1, s2, s3⟩ := HSS.out s (List.mem_of_getElem? hs)
      have hst : ∀ o, wr.cell? ⟨ga, o, none⟩ = w.cell? ⟨ga, o, none⟩ := fun o => hqs.touch.cell (p := ⟨ga, o, none⟩) hab (fun h => by rcases h with h | h; exact hga.1 h; exact hga.2 h)
      obtain ⟨y0, y1, y2⟩ := hcell k s hs
      rw [← hst] at y0 y1 y2
      have hwsz := hqs.touch.size
      have hgr : ga < wr.heap.size := by omega
      have hkn : (k : Int) < (n : Int) := by omega
      have hnsl : ns.length < 60000 := by
        have h1 := qSt_length (ss.take k)
        rw [← hmap] at h1
        simp at h1
        omega
      have HBQ1 := Lib.hid (HBQ.out.touch hqs.touch (fun h => by rcases h with h | h; exact dqo h; exact dqg h))
      have HQS := Lib.hid hqs
      have HMAP := Lib.hid hmap
      have HS := Lib.hid hs
      clear hst hcell hs hqs hmap hinv hga
      obtain ⟨wh, sq, tm⟩ := s
      simp only at s1 s2 s3 y0 y1 y2
      have hwh : wh = 0 ∨ wh = 1 ∨ wh = 2 ∨ wh = 3 ∨ wh = 4 ∨ wh = 5 := by omega
      rcases hwh with rfl | rfl | rfl | rfl | rfl | rfl
      · have hsbq : Blk ((wr.alloc (.cells #[.int .i64 (0 : Nat), .int .u16 sq, .int .u32 tm] 45)).alloc (.cells #[.bool false, .int .u16 0, .int .i64 0] 59)) bq 95 #[.pointer (some ⟨g, 0, none⟩)] := (HBQ1.out.alloc _).alloc _
        have hsb : Blk ((wr.alloc (.cells #[.int .i64 (0 : Nat), .int .u16 sq, .int .u32 tm] 45)).alloc (.cells #[.bool false, .int .u16 0, .int .i64 0] 59)) wr.heap.size 45 #[.int .i64 (0 : Nat), .int .u16 sq, .int .u32 tm] := (Blk.new _ _ _).alloc _
        have hqm : QM bo g k w.heap.size (wr.heap.size + 1) ss w ((wr.alloc (.cells #[.int .i64 (0 : Nat), .int .u16 sq, .int .u32 tm] 45)).alloc (.cells #[.bool false, .int .u16 0, .int .i64 0] 59)) ns v #[.bool false, .int .u16 0, .int .i64 0] :=
          ⟨HQS.out.idle (((Touch.refl Nowhere wr).alloc _).alloc _), by rw [show wr.heap.size + 1 = (wr.alloc (.cells #[.int .i64 (0 : Nat), .int .u16 sq, .int .u32 tm] 45)).heap.size by simp]; exact Blk.new _ _ _, by omega⟩
        have hvb : ∀ b, v.ownBlock = some b → b ≠ wr.heap.size + 1 := fun b hb => by have := (HQS.out.own.lt b hb).2; omega
        have HSBQ := Lib.hid hsbq
        have HSB := Lib.hid hsb
        have HQM := Lib.hid hqm
        have HVB := Lib.hid hvb
        clear hsbq hsb hqm hvb
        go_wp2_with fail
        generalize hW : ((wr.alloc (.cells #[.int .i64 (0 : Nat), .int .u16 sq, .int .u32 tm] 45)).alloc (.cells #[.bool false, .int .u16 0, .int .i64 0] 59)) = W at *
        clear hW y0 y1 y2
        generalize wr.heap.size + 1 = ab at *
        generalize wr.heap.size = sb at *
        have cq : W.cell? ⟨bq, 0, none⟩ = some (.pointer (some ⟨g, 0, none⟩)) := HSBQ.out.cell 0
        have t0 := HSB.out.cell 0
        have t1 := HSB.out.cell 1
        have t2 := HSB.out.cell 2
        simp at t0 t1 t2
        have hBW := HQM.out.touch.size
        go_cut [] (fun wx => Hid (∃ N : Nd, N.seq = sq ∧ N.time = tm ∧ QM bo g k w.heap.size ab ss w wx (insBy Nd.seq N ns) v #[.bool false, .int .u16 0, .int .i64 0]))
        case first =>
          go_region_law
            (first
              | (go_simp; go_at_call 45; refine (packet_p 0 sq tm _).mono ?_; rintro e w3 ⟨pk, rfl, ht3, hp3, hle3⟩; have HQM3 := Lib.hid (HQM.out.idle ht3.undrew); have cq3 : w3.cell? ⟨bq, 0, none⟩ = some (.pointer (some ⟨g, 0, none⟩)) := (HSBQ.out.touch ht3.undrew (fun h => h)).cell 0; have t13 : w3.cell? ⟨sb, 1, none⟩ = some (.int .u16 sq) := (HSB.out.touch ht3.undrew (fun h => h)).cell 1; have HP3 := Lib.hid hp3; have hpB3 : w.heap.size ≤ pk := Nat.le_trans hBW hle3; have hBW3 : w.heap.size ≤ w3.heap.size := HQM3.out.touch.size; clear ht3 hp3)
              | (go_simp; go_at_call 44; refine (push_any w.heap.size g pk sq tm ns _ HQM3.out.queue hnsl hBW3 HP3.out hpB3 s2 s3).mono ?_; rintro e w4 ⟨rfl, N, hN1, hN2, hN3, hput⟩; have HQM4 := Lib.hid (HQM3.out.call hput.1 hput.2 lg (Nat.le_refl _) dog); have HN := Lib.hid (And.intro hN2 hN3); clear hput hN1 hN2 hN3))
          all_goals
            go_wp2_with fail
            go_meet
            exact ⟨N, HN.out.1, HN.out.2, HQM4.out⟩
        case rest =>
          obtain ⟨N, hN2, hN3, hm4⟩ := hcut.out
          have HQM4 := Lib.hid hm4
          have HN := Lib.hid (And.intro hN2 hN3)
          clear hN2 hN3 hm4 hcut
          have b0 := HQM4.out.box.cell 0
          have b1 := HQM4.out.box.cell 1
          have b2 := HQM4.out.box.cell 2
          have fb0 := HQM4.out.box.free 0
          have fb1 := HQM4.out.box.free 1
          have fb2 := HQM4.out.box.free 2
          simp at b0 b1 b2
          go_upto_region 18 with fail
          clear b0 b1 b2 fb0 fb1 fb2
          have HF := Lib.hid ((HQM4.out.put HVB.out (Nat.le_refl _) lo 0 (.bool true)))
          generalize hV : wc.setCell ⟨ab, 0, none⟩ (.bool true) = V at *
          have co := HF.out.out.cell 0
          have fo := HF.out.out.free 0
          have a0 := HF.out.box.cell 0
          have a1 := HF.out.box.cell 1
          have a2 := HF.out.box.cell 2
          have hva := HF.out.box.lt
          have hvo := HF.out.out.lt
          have hBV := HF.out.touch.size
          obtain ⟨A1, c1, hA1⟩ := own_slice HF.out.own
          subst hA1
          simp at co a0 a1 a2
          have HX : Hid ((⟨true, 0, 0⟩ : An) = qAns ⟨0, sq, tm⟩ (qSt (ss.take k)) ∧ (insBy Nd.seq N ns).map itOf = qSt (ss.take (k + 1))) := by
            show _ ∧ _
            rw [qSt_take HS.out, ← HMAP.out]
            refine ⟨rfl, ?_⟩
            rw [itOf_ins]
            show _ = insBy It.n _ _
            rw [show itOf N = ⟨sq, tm⟩ by rw [itOf, HN.out.1, HN.out.2]]
          clear hV
          go_wp2_with (at_builtin; (refine wpList_append_lies _ rfl _ _ _ rfl w.heap.size 59 i0 _ 3 16 Try.underlying47 hi0 hz0 hz1 hz2 rfl (by decide) (.slice A1 k c1) k _ rfl (HF.out.own.alloc _) ⟨V.heap.size, 0, none⟩ 1 1 [.bool true, .int .u16 (0 : Nat), .int .i64 (0 : Nat)] rfl rfl (World.news_of_block (cs := #[.bool true, .int .u16 (0 : Nat), .int .i64 (0 : Nat)]) (t := 59) (fr := (0, 0)) (heap_alloc_new V _)) (by simp [Value.oneCell']) (by omega) (by simp only [maxLen]; omega) (by omega) (by simp; omega) (V.heap.size + 1) (by simp) ?_); intro gg cap w7 hown7 hgrow7 hat7 hlt7; obtain ⟨cb7, fb7⟩ := HF.out.after hgrow7 lo; have HO7 := Lib.hid hown7; have HG7 := Lib.hid hgrow7; clear hat7 hown7 hgrow7)
          refine ⟨⟨k + 1, by omega, by go_num, _, _, HF.out.done (x := ⟨true, 0, 0⟩) HS.out HX.out.1 HO7.out HG7.out lo (Nat.le_refl _), HX.out.2⟩, by simp [intOf]; omega⟩
      · have hsbq : Blk ((wr.alloc (.cells #[.int .i64 (1 : Nat), .int .u16 sq, .int .u32 tm] 45)).alloc (.cells #[.bool false, .int .u16 0, .int .i64 0] 59)) bq 95 #[.pointer (some ⟨g, 0, none⟩)] := (HBQ1.out.alloc _).alloc _
        have hsb : Blk ((wr.alloc (.cells #[.int .i64 (1 : Nat), .int .u16 sq, .int .u32 tm] 45)).alloc (.cells #[.bool false, .int .u16 0, .int .i64 0] 59)) wr.heap.size 45 #[.int .i64 (1 : Nat), .int .u16 sq, .int .u32 tm] := (Blk.new _ _ _).alloc _
        have hqm : QM bo g k w.heap.size (wr.heap.size + 1) ss w ((wr.alloc (.cells #[.int .i64 (1 : Nat), .int .u16 sq, .int .u32 tm] 45)).alloc (.cells #[.bool false, .int .u16 0, .int .i64 0] 59)) ns v #[.bool false, .int .u16 0, .int .i64 0] :=
          ⟨HQS.out.idle (((Touch.refl Nowhere wr).alloc _).alloc _), by rw [show wr.heap.size + 1 = (wr.alloc (.cells #[.int .i64 (1 : Nat), .int .u16 sq, .int .u32 tm] 45)).heap.size by simp]; exact Blk.new _ _ _, by omega⟩
        have hvb : ∀ b, v.ownBlock = some b → b ≠ wr.heap.size + 1 := fun b hb => by have := (HQS.out.own.lt b hb).2; omega
        have HSBQ := Lib.hid hsbq
        have HSB := Lib.hid hsb
        have HQM := Lib.hid hqm
        have HVB := Lib.hid hvb
        clear hsbq hsb hqm hvb
        go_upto_region 9 with fail
        generalize hW : ((wr.alloc (.cells #[.int .i64 (1 : Nat), .int .u16 sq, .int .u32 tm] 45)).alloc (.cells #[.bool false, .int .u16 0, .int .i64 0] 59)) = W at *
        clear hW y0 y1 y2
        generalize wr.heap.size + 1 = ab at *
        generalize wr.heap.size = sb at *
        have cq : W.cell? ⟨bq, 0, none⟩ = some (.pointer (some ⟨g, 0, none⟩)) := HSBQ.out.cell 0
        have t0 := HSB.out.cell 0
        have t1 := HSB.out.cell 1
        have t2 := HSB.out.cell 2
        simp at t0 t1 t2
        have hBW := HQM.out.touch.size
        go_wp2_with fail
        obtain ⟨o, ho⟩ : ∃ o, popOf ns = o := ⟨_, rfl⟩
        have HOO := Lib.hid ho
        cases o with
        | none =>
          refine (pop_any w.heap.size g ns W HQM.out.queue hnsl).mono ?_
          rw [ho]
          rintro e w3 ⟨⟨ty, xx, rfl⟩, hw3⟩
          have HQM3 : Hid (QM bo g k w.heap.size ab ss w w3 ns v #[.bool false, .int .u16 0, .int .i64 0]) := by rw [hw3]; exact HQM.out
          clear hw3 ho
          go_wp2_with fail
          refine (told_n ty xx w3).mono ?_
          rintro e w5 ⟨rfl, ht5⟩
          have HQM5 := Lib.hid (HQM3.out.idle ht5)
          clear ht5
          have b0 := HQM5.out.box.cell 0
          have b1 := HQM5.out.box.cell 1
          have b2 := HQM5.out.box.cell 2
          have fb0 := HQM5.out.box.free 0
          have fb1 := HQM5.out.box.free 1
          have fb2 := HQM5.out.box.free 2
          simp at b0 b1 b2
          simp only [ansV] at *
          go_upto_region 18 with fail
          clear b0 b1 b2 fb0 fb1 fb2
          have HF := Lib.hid ((((HQM5.out.put HVB.out (Nat.le_refl _) lo 0 (.bool false)).put HVB.out (Nat.le_refl _) lo 1 (.int .u16 0)).put HVB.out (Nat.le_refl _) lo 2 (.int .i64 0)))
          generalize hV : ((w5.setCell ⟨ab, 0, none⟩ (.bool false)).setCell ⟨ab, 1, none⟩ (.int .u16 0)).setCell ⟨ab, 2, none⟩ (.int .i64 0) = V at *
          have co := HF.out.out.cell 0
          have fo := HF.out.out.free 0
          have a0 := HF.out.box.cell 0
          have a1 := HF.out.box.cell 1
          have a2 := HF.out.box.cell 2
          have hva := HF.out.box.lt
          have hvo := HF.out.out.lt
          have hBV := HF.out.touch.size
          obtain ⟨A1, c1, hA1⟩ := own_slice HF.out.own
          subst hA1
          simp at co a0 a1 a2
          have HX : Hid ((⟨false, 0, 0⟩ : An) = qAns ⟨1, sq, tm⟩ (qSt (ss.take k)) ∧ (ns).map itOf = qSt (ss.take (k + 1))) := by
            show _ ∧ _
            rw [qSt_take HS.out, ← HMAP.out]
            have h := itOf_take (fun _ => true) _ (fun _ => rfl) ns
            rw [← popOf_take, HOO.out] at h
            constructor
            · show _ = anOf (Option.map Prod.fst (takeBy (fun _ => true) (ns.map itOf)))
              rw [h]
              rfl
            · show _ = restOf _ (takeBy (fun _ => true) (ns.map itOf))
              rw [h]
              rfl
          clear hV
          go_wp2_with (at_builtin; (refine wpList_append_lies _ rfl _ _ _ rfl w.heap.size 59 i0 _ 3 16 Try.underlying47 hi0 hz0 hz1 hz2 rfl (by decide) (.slice A1 k c1) k _ rfl (HF.out.own.alloc _) ⟨V.heap.size, 0, none⟩ 1 1 [.bool false, .int .u16 (0 : Nat), .int .i64 (0 : Nat)] rfl rfl (World.news_of_block (cs := #[.bool false, .int .u16 (0 : Nat), .int .i64 (0 : Nat)]) (t := 59) (fr := (0, 0)) (heap_alloc_new V _)) (by simp [Value.oneCell']) (by omega) (by simp only [maxLen]; omega) (by omega) (by simp; omega) (V.heap.size + 1) (by simp) ?_); intro gg cap w7 hown7 hgrow7 hat7 hlt7; obtain ⟨cb7, fb7⟩ := HF.out.after hgrow7 lo; have HO7 := Lib.hid hown7; have HG7 := Lib.hid hgrow7; clear hat7 hown7 hgrow7)
          refine ⟨⟨k + 1, by omega, by go_num, _, _, HF.out.done (x := ⟨false, 0, 0⟩) HS.out HX.out.1 HO7.out HG7.out lo (Nat.le_refl _), HX.out.2⟩, by simp [intOf]; omega⟩
        | some y =>
          refine (pop_any w.heap.size g ns W HQM.out.queue hnsl).mono ?_
          rw [ho]
          rintro e w3 ⟨rfl, hq3, ht3, hk3⟩
          have HQM3 := Lib.hid (HQM.out.call hq3 ht3 lg (Nat.le_refl _) dog)
          clear hq3 ht3 ho
          go_wp2_with fail
          refine (told_s y.1.pk y.1.seq y.1.time w3 hk3).mono ?_
          rintro e w5 ⟨rfl, ht5⟩
          have HQM5 := Lib.hid (HQM3.out.idle ht5)
          clear ht5
          have b0 := HQM5.out.box.cell 0
          have b1 := HQM5.out.box.cell 1
          have b2 := HQM5.out.box.cell 2
          have fb0 := HQM5.out.box.free 0
          have fb1 := HQM5.out.box.free 1
          have fb2 := HQM5.out.box.free 2
          simp at b0 b1 b2
          simp only [ansV] at *
          go_upto_region 18 with fail
          clear b0 b1 b2 fb0 fb1 fb2
          have HF := Lib.hid ((((HQM5.out.put HVB.out (Nat.le_refl _) lo 0 (.bool true)).put HVB.out (Nat.le_refl _) lo 1 (.int .u16 (y.1.seq : Nat))).put HVB.out (Nat.le_refl _) lo 2 (.int .i64 0)))
          generalize hV : ((w5.setCell ⟨ab, 0, none⟩ (.bool true)).setCell ⟨ab, 1, none⟩ (.int .u16 (y.1.seq : Nat))).setCell ⟨ab, 2, none⟩ (.int .i64 0) = V at *
          have co := HF.out.out.cell 0
          have fo := HF.out.out.free 0
          have a0 := HF.out.box.cell 0
          have a1 := HF.out.box.cell 1
          have a2 := HF.out.box.cell 2
          have hva := HF.out.box.lt
          have hvo := HF.out.out.lt
          have hBV := HF.out.touch.size
          obtain ⟨A1, c1, hA1⟩ := own_slice HF.out.own
          subst hA1
          simp at co a0 a1 a2
          have HX : Hid ((⟨true, y.1.seq, 0⟩ : An) = qAns ⟨1, sq, tm⟩ (qSt (ss.take k)) ∧ (y.2).map itOf = qSt (ss.take (k + 1))) := by
            show _ ∧ _
            rw [qSt_take HS.out, ← HMAP.out]
            have h := itOf_take (fun _ => true) _ (fun _ => rfl) ns
            rw [← popOf_take, HOO.out] at h
            constructor
            · show _ = anOf (Option.map Prod.fst (takeBy (fun _ => true) (ns.map itOf)))
              rw [h]
              rfl
            · show _ = restOf _ (takeBy (fun _ => true) (ns.map itOf))
              rw [h]
              rfl
          clear hV
          go_wp2_with (at_builtin; (refine wpList_append_lies _ rfl _ _ _ rfl w.heap.size 59 i0 _ 3 16 Try.underlying47 hi0 hz0 hz1 hz2 rfl (by decide) (.slice A1 k c1) k _ rfl (HF.out.own.alloc _) ⟨V.heap.size, 0, none⟩ 1 1 [.bool true, .int .u16 (y.1.seq : Nat), .int .i64 (0 : Nat)] rfl rfl (World.news_of_block (cs := #[.bool true, .int .u16 (y.1.seq : Nat), .int .i64 (0 : Nat)]) (t := 59) (fr := (0, 0)) (heap_alloc_new V _)) (by simp [Value.oneCell']) (by omega) (by simp only [maxLen]; omega) (by omega) (by simp; omega) (V.heap.size + 1) (by simp) ?_); intro gg cap w7 hown7 hgrow7 hat7 hlt7; obtain ⟨cb7, fb7⟩ := HF.out.after hgrow7 lo; have HO7 := Lib.hid hown7; have HG7 := Lib.hid hgrow7; clear hat7 hown7 hgrow7)
          refine ⟨⟨k + 1, by omega, by go_num, _, _, HF.out.done (x := ⟨true, y.1.seq, 0⟩) HS.out HX.out.1 HO7.out HG7.out lo (Nat.le_refl _), HX.out.2⟩, by simp [intOf]; omega⟩
      · have hsbq : Blk ((wr.alloc (.cells #[.int .i64 (2 : Nat), .int .u16 sq, .int .u32 tm] 45)).alloc (.cells #[.bool false, .int .u16 0, .int .i64 0] 59)) bq 95 #[.pointer (some ⟨g, 0, none⟩)] := (HBQ1.out.alloc _).alloc _
        have hsb : Blk ((wr.alloc (.cells #[.int .i64 (2 : Nat), .int .u16 sq, .int .u32 tm] 45)).alloc (.cells #[.bool false, .int .u16 0, .int .i64 0] 59)) wr.heap.size 45 #[.int .i64 (2 : Nat), .int .u16 sq, .int .u32 tm] := (Blk.new _ _ _).alloc _
        have hqm : QM bo g k w.heap.size (wr.heap.size + 1) ss w ((wr.alloc (.cells #[.int .i64 (2 : Nat), .int .u16 sq, .int .u32 tm] 45)).alloc (.cells #[.bool false, .int .u16 0, .int .i64 0] 59)) ns v #[.bool false, .int .u16 0, .int .i64 0] :=
          ⟨HQS.out.idle (((Touch.refl Nowhere wr).alloc _).alloc _), by rw [show wr.heap.size + 1 = (wr.alloc (.cells #[.int .i64 (2 : Nat), .int .u16 sq, .int .u32 tm] 45)).heap.size by simp]; exact Blk.new _ _ _, by omega⟩
        have hvb : ∀ b, v.ownBlock = some b → b ≠ wr.heap.size + 1 := fun b hb => by have := (HQS.out.own.lt b hb).2; omega
        have HSBQ := Lib.hid hsbq
        have HSB := Lib.hid hsb
        have HQM := Lib.hid hqm
        have HVB := Lib.hid hvb
        clear hsbq hsb hqm hvb
        go_upto_region 11 with fail
        generalize hW : ((wr.alloc (.cells #[.int .i64 (2 : Nat), .int .u16 sq, .int .u32 tm] 45)).alloc (.cells #[.bool false, .int .u16 0, .int .i64 0] 59)) = W at *
        clear hW y0 y1 y2
        generalize wr.heap.size + 1 = ab at *
        generalize wr.heap.size = sb at *
        have cq : W.cell? ⟨bq, 0, none⟩ = some (.pointer (some ⟨g, 0, none⟩)) := HSBQ.out.cell 0
        have t0 := HSB.out.cell 0
        have t1 := HSB.out.cell 1
        have t2 := HSB.out.cell 2
        simp at t0 t1 t2
        have hBW := HQM.out.touch.size
        go_wp2_with fail
        obtain ⟨o, ho⟩ : ∃ o, takeBy (fun n : Nd => decide (n.seq = sq)) ns = o := ⟨_, rfl⟩
        have HOO := Lib.hid ho
        cases o with
        | none =>
          refine (popAt_any w.heap.size g sq ns W HQM.out.queue hnsl).mono ?_
          rw [ho]
          rintro e w3 ⟨⟨ty, xx, rfl⟩, hw3⟩
          have HQM3 : Hid (QM bo g k w.heap.size ab ss w w3 ns v #[.bool false, .int .u16 0, .int .i64 0]) := by rw [hw3]; exact HQM.out
          clear hw3 ho
          go_wp2_with fail
          refine (told_n ty xx w3).mono ?_
          rintro e w5 ⟨rfl, ht5⟩
          have HQM5 := Lib.hid (HQM3.out.idle ht5)
          clear ht5
          have b0 := HQM5.out.box.cell 0
          have b1 := HQM5.out.box.cell 1
          have b2 := HQM5.out.box.cell 2
          have fb0 := HQM5.out.box.free 0
          have fb1 := HQM5.out.box.free 1
          have fb2 := HQM5.out.box.free 2
          simp at b0 b1 b2
          simp only [ansV] at *
          go_upto_region 18 with fail
          clear b0 b1 b2 fb0 fb1 fb2
          have HF := Lib.hid ((((HQM5.out.put HVB.out (Nat.le_refl _) lo 0 (.bool false)).put HVB.out (Nat.le_refl _) lo 1 (.int .u16 0)).put HVB.out (Nat.le_refl _) lo 2 (.int .i64 0)))
          generalize hV : ((w5.setCell ⟨ab, 0, none⟩ (.bool false)).setCell ⟨ab, 1, none⟩ (.int .u16 0)).setCell ⟨ab, 2, none⟩ (.int .i64 0) = V at *
          have co := HF.out.out.cell 0
          have fo := HF.out.out.free 0
          have a0 := HF.out.box.cell 0
          have a1 := HF.out.box.cell 1
          have a2 := HF.out.box.cell 2
          have hva := HF.out.box.lt
          have hvo := HF.out.out.lt
          have hBV := HF.out.touch.size
          obtain ⟨A1, c1, hA1⟩ := own_slice HF.out.own
          subst hA1
          simp at co a0 a1 a2
          have HX : Hid ((⟨false, 0, 0⟩ : An) = qAns ⟨2, sq, tm⟩ (qSt (ss.take k)) ∧ (ns).map itOf = qSt (ss.take (k + 1))) := by
            show _ ∧ _
            rw [qSt_take HS.out, ← HMAP.out]
            have h := itOf_take (fun x => decide (x.n = sq)) (fun n : Nd => decide (n.seq = sq)) (fun _ => rfl) ns
            rw [HOO.out] at h
            constructor
            · show _ = anOf (Option.map Prod.fst (takeBy (fun x => decide (x.n = sq)) (ns.map itOf)))
              rw [h]
              rfl
            · show _ = restOf _ (takeBy (fun x => decide (x.n = sq)) (ns.map itOf))
              rw [h]
              rfl
          clear hV
          go_wp2_with (at_builtin; (refine wpList_append_lies _ rfl _ _ _ rfl w.heap.size 59 i0 _ 3 16 Try.underlying47 hi0 hz0 hz1 hz2 rfl (by decide) (.slice A1 k c1) k _ rfl (HF.out.own.alloc _) ⟨V.heap.size, 0, none⟩ 1 1 [.bool false, .int .u16 (0 : Nat), .int .i64 (0 : Nat)] rfl rfl (World.news_of_block (cs := #[.bool false, .int .u16 (0 : Nat), .int .i64 (0 : Nat)]) (t := 59) (fr := (0, 0)) (heap_alloc_new V _)) (by simp [Value.oneCell']) (by omega) (by simp only [maxLen]; omega) (by omega) (by simp; omega) (V.heap.size + 1) (by simp) ?_); intro gg cap w7 hown7 hgrow7 hat7 hlt7; obtain ⟨cb7, fb7⟩ := HF.out.after hgrow7 lo; have HO7 := Lib.hid hown7; have HG7 := Lib.hid hgrow7; clear hat7 hown7 hgrow7)
          refine ⟨⟨k + 1, by omega, by go_num, _, _, HF.out.done (x := ⟨false, 0, 0⟩) HS.out HX.out.1 HO7.out HG7.out lo (Nat.le_refl _), HX.out.2⟩, by simp [intOf]; omega⟩
        | some y =>
          refine (popAt_any w.heap.size g sq ns W HQM.out.queue hnsl).mono ?_
          rw [ho]
          rintro e w3 ⟨rfl, hq3, ht3, hk3⟩
          have HQM3 := Lib.hid (HQM.out.call hq3 ht3 lg (Nat.le_refl _) dog)
          clear hq3 ht3 ho
          go_wp2_with fail
          refine (told_s y.1.pk y.1.seq y.1.time w3 hk3).mono ?_
          rintro e w5 ⟨rfl, ht5⟩
          have HQM5 := Lib.hid (HQM3.out.idle ht5)
          clear ht5
          have b0 := HQM5.out.box.cell 0
          have b1 := HQM5.out.box.cell 1
          have b2 := HQM5.out.box.cell 2
          have fb0 := HQM5.out.box.free 0
          have fb1 := HQM5.out.box.free 1
          have fb2 := HQM5.out.box.free 2
          simp at b0 b1 b2
          simp only [ansV] at *
          go_upto_region 18 with fail
          clear b0 b1 b2 fb0 fb1 fb2
          have HF := Lib.hid ((((HQM5.out.put HVB.out (Nat.le_refl _) lo 0 (.bool true)).put HVB.out (Nat.le_refl _) lo 1 (.int .u16 (y.1.seq : Nat))).put HVB.out (Nat.le_refl _) lo 2 (.int .i64 0)))
          generalize hV : ((w5.setCell ⟨ab, 0, none⟩ (.bool true)).setCell ⟨ab, 1, none⟩ (.int .u16 (y.1.seq : Nat))).setCell ⟨ab, 2, none⟩ (.int .i64 0) = V at *
          have co := HF.out.out.cell 0
          have fo := HF.out.out.free 0
          have a0 := HF.out.box.cell 0
          have a1 := HF.out.box.cell 1
          have a2 := HF.out.box.cell 2
          have hva := HF.out.box.lt
          have hvo := HF.out.out.lt
          have hBV := HF.out.touch.size
          obtain ⟨A1, c1, hA1⟩ := own_slice HF.out.own
          subst hA1
          simp at co a0 a1 a2
          have HX : Hid ((⟨true, y.1.seq, 0⟩ : An) = qAns ⟨2, sq, tm⟩ (qSt (ss.take k)) ∧ (y.2).map itOf = qSt (ss.take (k + 1))) := by
            show _ ∧ _
            rw [qSt_take HS.out, ← HMAP.out]
            have h := itOf_take (fun x => decide (x.n = sq)) (fun n : Nd => decide (n.seq = sq)) (fun _ => rfl) ns
            rw [HOO.out] at h
            constructor
            · show _ = anOf (Option.map Prod.fst (takeBy (fun x => decide (x.n = sq)) (ns.map itOf)))
              rw [h]
              rfl
            · show _ = restOf _ (takeBy (fun x => decide (x.n = sq)) (ns.map itOf))
              rw [h]
              rfl
          clear hV
          go_wp2_with (at_builtin; (refine wpList_append_lies _ rfl _ _ _ rfl w.heap.size 59 i0 _ 3 16 Try.underlying47 hi0 hz0 hz1 hz2 rfl (by decide) (.slice A1 k c1) k _ rfl (HF.out.own.alloc _) ⟨V.heap.size, 0, none⟩ 1 1 [.bool true, .int .u16 (y.1.seq : Nat), .int .i64 (0 : Nat)] rfl rfl (World.news_of_block (cs := #[.bool true, .int .u16 (y.1.seq : Nat), .int .i64 (0 : Nat)]) (t := 59) (fr := (0, 0)) (heap_alloc_new V _)) (by simp [Value.oneCell']) (by omega) (by simp only [maxLen]; omega) (by omega) (by simp; omega) (V.heap.size + 1) (by simp) ?_); intro gg cap w7 hown7 hgrow7 hat7 hlt7; obtain ⟨cb7, fb7⟩ := HF.out.after hgrow7 lo; have HO7 := Lib.hid hown7; have HG7 := Lib.hid hgrow7; clear hat7 hown7 hgrow7)
          refine ⟨⟨k + 1, by omega, by go_num, _, _, HF.out.done (x := ⟨true, y.1.seq, 0⟩) HS.out HX.out.1 HO7.out HG7.out lo (Nat.le_refl _), HX.out.2⟩, by simp [intOf]; omega⟩
      · have hsbq : Blk ((wr.alloc (.cells #[.int .i64 (3 : Nat), .int .u16 sq, .int .u32 tm] 45)).alloc (.cells #[.bool false, .int .u16 0, .int .i64 0] 59)) bq 95 #[.pointer (some ⟨g, 0, none⟩)] := (HBQ1.out.alloc _).alloc _
        have hsb : Blk ((wr.alloc (.cells #[.int .i64 (3 : Nat), .int .u16 sq, .int .u32 tm] 45)).alloc (.cells #[.bool false, .int .u16 0, .int .i64 0] 59)) wr.heap.size 45 #[.int .i64 (3 : Nat), .int .u16 sq, .int .u32 tm] := (Blk.new _ _ _).alloc _
        have hqm : QM bo g k w.heap.size (wr.heap.size + 1) ss w ((wr.alloc (.cells #[.int .i64 (3 : Nat), .int .u16 sq, .int .u32 tm] 45)).alloc (.cells #[.bool false, .int .u16 0, .int .i64 0] 59)) ns v #[.bool false, .int .u16 0, .int .i64 0] :=
          ⟨HQS.out.idle (((Touch.refl Nowhere wr).alloc _).alloc _), by rw [show wr.heap.size + 1 = (wr.alloc (.cells #[.int .i64 (3 : Nat), .int .u16 sq, .int .u32 tm] 45)).heap.size by simp]; exact Blk.new _ _ _, by omega⟩
        have hvb : ∀ b, v.ownBlock = some b → b ≠ wr.heap.size + 1 := fun b hb => by have := (HQS.out.own.lt b hb).2; omega
        have HSBQ := Lib.hid hsbq
        have HSB := Lib.hid hsb
        have HQM := Lib.hid hqm
        have HVB := Lib.hid hvb
        clear hsbq hsb hqm hvb
        go_upto_region 13 with fail
        generalize hW : ((wr.alloc (.cells #[.int .i64 (3 : Nat), .int .u16 sq, .int .u32 tm] 45)).alloc (.cells #[.bool false, .int .u16 0, .int .i64 0] 59)) = W at *
        clear hW y0 y1 y2
        generalize wr.heap.size + 1 = ab at *
        generalize wr.heap.size = sb at *
        have cq : W.cell? ⟨bq, 0, none⟩ = some (.pointer (some ⟨g, 0, none⟩)) := HSBQ.out.cell 0
        have t0 := HSB.out.cell 0
        have t1 := HSB.out.cell 1
        have t2 := HSB.out.cell 2
        simp at t0 t1 t2
        have hBW := HQM.out.touch.size
        go_wp2_with fail
        obtain ⟨o, ho⟩ : ∃ o, takeBy (fun n : Nd => decide (n.time = tm)) ns = o := ⟨_, rfl⟩
        have HOO := Lib.hid ho
        cases o with
        | none =>
          refine (popTime_any w.heap.size g tm ns W HQM.out.queue hnsl).mono ?_
          rw [ho]
          rintro e w3 ⟨⟨ty, xx, rfl⟩, hw3⟩
          have HQM3 : Hid (QM bo g k w.heap.size ab ss w w3 ns v #[.bool false, .int .u16 0, .int .i64 0]) := by rw [hw3]; exact HQM.out
          clear hw3 ho
          go_wp2_with fail
          refine (told_n ty xx w3).mono ?_
          rintro e w5 ⟨rfl, ht5⟩
          have HQM5 := Lib.hid (HQM3.out.idle ht5)
          clear ht5
          have b0 := HQM5.out.box.cell 0
          have b1 := HQM5.out.box.cell 1
          have b2 := HQM5.out.box.cell 2
          have fb0 := HQM5.out.box.free 0
          have fb1 := HQM5.out.box.free 1
          have fb2 := HQM5.out.box.free 2
          simp at b0 b1 b2
          simp only [ansV] at *
          go_upto_region 18 with fail
          clear b0 b1 b2 fb0 fb1 fb2
          have HF := Lib.hid ((((HQM5.out.put HVB.out (Nat.le_refl _) lo 0 (.bool false)).put HVB.out (Nat.le_refl _) lo 1 (.int .u16 0)).put HVB.out (Nat.le_refl _) lo 2 (.int .i64 0)))
          generalize hV : ((w5.setCell ⟨ab, 0, none⟩ (.bool false)).setCell ⟨ab, 1, none⟩ (.int .u16 0)).setCell ⟨ab, 2, none⟩ (.int .i64 0) = V at *
          have co := HF.out.out.cell 0
          have fo := HF.out.out.free 0
          have a0 := HF.out.box.cell 0
          have a1 := HF.out.box.cell 1
          have a2 := HF.out.box.cell 2
          have hva := HF.out.box.lt
          have hvo := HF.out.out.lt
          have hBV := HF.out.touch.size
          obtain ⟨A1, c1, hA1⟩ := own_slice HF.out.own
          subst hA1
          simp at co a0 a1 a2
          have HX : Hid ((⟨false, 0, 0⟩ : An) = qAns ⟨3, sq, tm⟩ (qSt (ss.take k)) ∧ (ns).map itOf = qSt (ss.take (k + 1))) := by
            show _ ∧ _
            rw [qSt_take HS.out, ← HMAP.out]
            have h := itOf_take (fun x => decide (x.t = tm)) (fun n : Nd => decide (n.time = tm)) (fun _ => rfl) ns
            rw [HOO.out] at h
            constructor
            · show _ = anOf (Option.map Prod.fst (takeBy (fun x => decide (x.t = tm)) (ns.map itOf)))
              rw [h]
              rfl
            · show _ = restOf _ (takeBy (fun x => decide (x.t = tm)) (ns.map itOf))
              rw [h]
              rfl
          clear hV
          go_wp2_with (at_builtin; (refine wpList_append_lies _ rfl _ _ _ rfl w.heap.size 59 i0 _ 3 16 Try.underlying47 hi0 hz0 hz1 hz2 rfl (by decide) (.slice A1 k c1) k _ rfl (HF.out.own.alloc _) ⟨V.heap.size, 0, none⟩ 1 1 [.bool false, .int .u16 (0 : Nat), .int .i64 (0 : Nat)] rfl rfl (World.news_of_block (cs := #[.bool false, .int .u16 (0 : Nat), .int .i64 (0 : Nat)]) (t := 59) (fr := (0, 0)) (heap_alloc_new V _)) (by simp [Value.oneCell']) (by omega) (by simp only [maxLen]; omega) (by omega) (by simp; omega) (V.heap.size + 1) (by simp) ?_); intro gg cap w7 hown7 hgrow7 hat7 hlt7; obtain ⟨cb7, fb7⟩ := HF.out.after hgrow7 lo; have HO7 := Lib.hid hown7; have HG7 := Lib.hid hgrow7; clear hat7 hown7 hgrow7)
          refine ⟨⟨k + 1, by omega, by go_num, _, _, HF.out.done (x := ⟨false, 0, 0⟩) HS.out HX.out.1 HO7.out HG7.out lo (Nat.le_refl _), HX.out.2⟩, by simp [intOf]; omega⟩
        | some y =>
          refine (popTime_any w.heap.size g tm ns W HQM.out.queue hnsl).mono ?_
          rw [ho]
          rintro e w3 ⟨rfl, hq3, ht3, hk3⟩
          have HQM3 := Lib.hid (HQM.out.call hq3 ht3 lg (Nat.le_refl _) dog)
          clear hq3 ht3 ho
          go_wp2_with fail
          refine (told_s y.1.pk y.1.seq y.1.time w3 hk3).mono ?_
          rintro e w5 ⟨rfl, ht5⟩
          have HQM5 := Lib.hid (HQM3.out.idle ht5)
          clear ht5
          have b0 := HQM5.out.box.cell 0
          have b1 := HQM5.out.box.cell 1
          have b2 := HQM5.out.box.cell 2
          have fb0 := HQM5.out.box.free 0
          have fb1 := HQM5.out.box.free 1
          have fb2 := HQM5.out.box.free 2
          simp at b0 b1 b2
          simp only [ansV] at *
          go_upto_region 18 with fail
          clear b0 b1 b2 fb0 fb1 fb2
          have HF := Lib.hid ((((HQM5.out.put HVB.out (Nat.le_refl _) lo 0 (.bool true)).put HVB.out (Nat.le_refl _) lo 1 (.int .u16 (y.1.seq : Nat))).put HVB.out (Nat.le_refl _) lo 2 (.int .i64 0)))
          generalize hV : ((w5.setCell ⟨ab, 0, none⟩ (.bool true)).setCell ⟨ab, 1, none⟩ (.int .u16 (y.1.seq : Nat))).setCell ⟨ab, 2, none⟩ (.int .i64 0) = V at *
          have co := HF.out.out.cell 0
          have fo := HF.out.out.free 0
          have a0 := HF.out.box.cell 0
          have a1 := HF.out.box.cell 1
          have a2 := HF.out.box.cell 2
          have hva := HF.out.box.lt
          have hvo := HF.out.out.lt
          have hBV := HF.out.touch.size
          obtain ⟨A1, c1, hA1⟩ := own_slice HF.out.own
          subst hA1
          simp at co a0 a1 a2
          have HX : Hid ((⟨true, y.1.seq, 0⟩ : An) = qAns ⟨3, sq, tm⟩ (qSt (ss.take k)) ∧ (y.2).map itOf = qSt (ss.take (k + 1))) := by
            show _ ∧ _
            rw [qSt_take HS.out, ← HMAP.out]
            have h := itOf_take (fun x => decide (x.t = tm)) (fun n : Nd => decide (n.time = tm)) (fun _ => rfl) ns
            rw [HOO.out] at h
            constructor
            · show _ = anOf (Option.map Prod.fst (takeBy (fun x => decide (x.t = tm)) (ns.map itOf)))
              rw [h]
              rfl
            · show _ = restOf _ (takeBy (fun x => decide (x.t = tm)) (ns.map itOf))
              rw [h]
              rfl
          clear hV
          go_wp2_with (at_builtin; (refine wpList_append_lies _ rfl _ _ _ rfl w.heap.size 59 i0 _ 3 16 Try.underlying47 hi0 hz0 hz1 hz2 rfl (by decide) (.slice A1 k c1) k _ rfl (HF.out.own.alloc _) ⟨V.heap.size, 0, none⟩ 1 1 [.bool true, .int .u16 (y.1.seq : Nat), .int .i64 (0 : Nat)] rfl rfl (World.news_of_block (cs := #[.bool true, .int .u16 (y.1.seq : Nat), .int .i64 (0 : Nat)]) (t := 59) (fr := (0, 0)) (heap_alloc_new V _)) (by simp [Value.oneCell']) (by omega) (by simp only [maxLen]; omega) (by omega) (by simp; omega) (V.heap.size + 1) (by simp) ?_); intro gg cap w7 hown7 hgrow7 hat7 hlt7; obtain ⟨cb7, fb7⟩ := HF.out.after hgrow7 lo; have HO7 := Lib.hid hown7; have HG7 := Lib.hid hgrow7; clear hat7 hown7 hgrow7)
          refine ⟨⟨k + 1, by omega, by go_num, _, _, HF.out.done (x := ⟨true, y.1.seq, 0⟩) HS.out HX.out.1 HO7.out HG7.out lo (Nat.le_refl _), HX.out.2⟩, by simp [intOf]; omega⟩
      · have hsbq : Blk ((wr.alloc (.cells #[.int .i64 (4 : Nat), .int .u16 sq, .int .u32 tm] 45)).alloc (.cells #[.bool false, .int .u16 0, .int .i64 0] 59)) bq 95 #[.pointer (some ⟨g, 0, none⟩)] := (HBQ1.out.alloc _).alloc _
        have hsb : Blk ((wr.alloc (.cells #[.int .i64 (4 : Nat), .int .u16 sq, .int .u32 tm] 45)).alloc (.cells #[.bool false, .int .u16 0, .int .i64 0] 59)) wr.heap.size 45 #[.int .i64 (4 : Nat), .int .u16 sq, .int .u32 tm] := (Blk.new _ _ _).alloc _
        have hqm : QM bo g k w.heap.size (wr.heap.size + 1) ss w ((wr.alloc (.cells #[.int .i64 (4 : Nat), .int .u16 sq, .int .u32 tm] 45)).alloc (.cells #[.bool false, .int .u16 0, .int .i64 0] 59)) ns v #[.bool false, .int .u16 0, .int .i64 0] :=
          ⟨HQS.out.idle (((Touch.refl Nowhere wr).alloc _).alloc _), by rw [show wr.heap.size + 1 = (wr.alloc (.cells #[.int .i64 (4 : Nat), .int .u16 sq, .int .u32 tm] 45)).heap.size by simp]; exact Blk.new _ _ _, by omega⟩
        have hvb : ∀ b, v.ownBlock = some b → b ≠ wr.heap.size + 1 := fun b hb => by have := (HQS.out.own.lt b hb).2; omega
        have HSBQ := Lib.hid hsbq
        have HSB := Lib.hid hsb
        have HQM := Lib.hid hqm
        have HVB := Lib.hid hvb
        clear hsbq hsb hqm hvb
        go_upto_region 15 with fail
        generalize hW : ((wr.alloc (.cells #[.int .i64 (4 : Nat), .int .u16 sq, .int .u32 tm] 45)).alloc (.cells #[.bool false, .int .u16 0, .int .i64 0] 59)) = W at *
        clear hW y0 y1 y2
        generalize wr.heap.size + 1 = ab at *
        generalize wr.heap.size = sb at *
        have cq : W.cell? ⟨bq, 0, none⟩ = some (.pointer (some ⟨g, 0, none⟩)) := HSBQ.out.cell 0
        have t0 := HSB.out.cell 0
        have t1 := HSB.out.cell 1
        have t2 := HSB.out.cell 2
        simp at t0 t1 t2
        have hBW := HQM.out.touch.size
        go_wp2_with fail
        obtain ⟨o, ho⟩ : ∃ o, takeBy (fun n : Nd => decide (n.seq = sq)) ns = o := ⟨_, rfl⟩
        have HOO := Lib.hid ho
        cases o with
        | none =>
          refine (find_any w.heap.size g ns.length sq ns W HQM.out.queue).mono ?_
          rw [ho]
          rintro e w3 ⟨hw3, ty, xx, rfl⟩
          have HQM3 : Hid (QM bo g k w.heap.size ab ss w w3 ns v #[.bool false, .int .u16 0, .int .i64 0]) := by rw [hw3]; exact HQM.out
          clear hw3 ho
          go_wp2_with fail
          refine (told_n ty xx w3).mono ?_
          rintro e w5 ⟨rfl, ht5⟩
          have HQM5 := Lib.hid (HQM3.out.idle ht5)
          clear ht5
          have b0 := HQM5.out.box.cell 0
          have b1 := HQM5.out.box.cell 1
          have b2 := HQM5.out.box.cell 2
          have fb0 := HQM5.out.box.free 0
          have fb1 := HQM5.out.box.free 1
          have fb2 := HQM5.out.box.free 2
          simp at b0 b1 b2
          simp only [ansV] at *
          go_upto_region 18 with fail
          clear b0 b1 b2 fb0 fb1 fb2
          have HF := Lib.hid ((((HQM5.out.put HVB.out (Nat.le_refl _) lo 0 (.bool false)).put HVB.out (Nat.le_refl _) lo 1 (.int .u16 0)).put HVB.out (Nat.le_refl _) lo 2 (.int .i64 0)))
          generalize hV : ((w5.setCell ⟨ab, 0, none⟩ (.bool false)).setCell ⟨ab, 1, none⟩ (.int .u16 0)).setCell ⟨ab, 2, none⟩ (.int .i64 0) = V at *
          have co := HF.out.out.cell 0
          have fo := HF.out.out.free 0
          have a0 := HF.out.box.cell 0
          have a1 := HF.out.box.cell 1
          have a2 := HF.out.box.cell 2
          have hva := HF.out.box.lt
          have hvo := HF.out.out.lt
          have hBV := HF.out.touch.size
          obtain ⟨A1, c1, hA1⟩ := own_slice HF.out.own
          subst hA1
          simp at co a0 a1 a2
          have HX : Hid ((⟨false, 0, 0⟩ : An) = qAns ⟨4, sq, tm⟩ (qSt (ss.take k)) ∧ (ns).map itOf = qSt (ss.take (k + 1))) := by
            show _ ∧ _
            rw [qSt_take HS.out, ← HMAP.out]
            have h := itOf_take (fun x => decide (x.n = sq)) (fun n : Nd => decide (n.seq = sq)) (fun _ => rfl) ns
            rw [HOO.out] at h
            refine ⟨?_, rfl⟩
            show _ = anOf (Option.map Prod.fst (takeBy (fun x => decide (x.n = sq)) (ns.map itOf)))
            rw [h]
            rfl
          clear hV
          go_wp2_with (at_builtin; (refine wpList_append_lies _ rfl _ _ _ rfl w.heap.size 59 i0 _ 3 16 Try.underlying47 hi0 hz0 hz1 hz2 rfl (by decide) (.slice A1 k c1) k _ rfl (HF.out.own.alloc _) ⟨V.heap.size, 0, none⟩ 1 1 [.bool false, .int .u16 (0 : Nat), .int .i64 (0 : Nat)] rfl rfl (World.news_of_block (cs := #[.bool false, .int .u16 (0 : Nat), .int .i64 (0 : Nat)]) (t := 59) (fr := (0, 0)) (heap_alloc_new V _)) (by simp [Value.oneCell']) (by omega) (by simp only [maxLen]; omega) (by omega) (by simp; omega) (V.heap.size + 1) (by simp) ?_); intro gg cap w7 hown7 hgrow7 hat7 hlt7; obtain ⟨cb7, fb7⟩ := HF.out.after hgrow7 lo; have HO7 := Lib.hid hown7; have HG7 := Lib.hid hgrow7; clear hat7 hown7 hgrow7)
          refine ⟨⟨k + 1, by omega, by go_num, _, _, HF.out.done (x := ⟨false, 0, 0⟩) HS.out HX.out.1 HO7.out HG7.out lo (Nat.le_refl _), HX.out.2⟩, by simp [intOf]; omega⟩
        | some y =>
          have hmem : y.1 ∈ ns := by
            obtain ⟨a, b, e, _⟩ := takeBy_some (x := y.1) (r := y.2) ho
            rw [e]
            simp
          refine (find_any w.heap.size g ns.length sq ns W HQM.out.queue).mono ?_
          rw [ho]
          rintro e w3 ⟨hw3, rfl⟩
          have HQM3 : Hid (QM bo g k w.heap.size ab ss w w3 ns v #[.bool false, .int .u16 0, .int .i64 0]) := by rw [hw3]; exact HQM.out
          have hk3 : Blk w3 y.1.pk 139 (pkCells y.1.seq y.1.time) := by
            obtain ⟨_, _, _, _, _, h⟩ := HQM3.out.queue.node hmem
            exact h
          clear hw3 ho hmem
          go_wp2_with fail
          refine (told_s y.1.pk y.1.seq y.1.time w3 hk3).mono ?_
          rintro e w5 ⟨rfl, ht5⟩
          have HQM5 := Lib.hid (HQM3.out.idle ht5)
          clear ht5
          have b0 := HQM5.out.box.cell 0
          have b1 := HQM5.out.box.cell 1
          have b2 := HQM5.out.box.cell 2
          have fb0 := HQM5.out.box.free 0
          have fb1 := HQM5.out.box.free 1
          have fb2 := HQM5.out.box.free 2
          simp at b0 b1 b2
          simp only [ansV] at *
          go_upto_region 18 with fail
          clear b0 b1 b2 fb0 fb1 fb2
          have HF := Lib.hid ((((HQM5.out.put HVB.out (Nat.le_refl _) lo 0 (.bool true)).put HVB.out (Nat.le_refl _) lo 1 (.int .u16 (y.1.seq : Nat))).put HVB.out (Nat.le_refl _) lo 2 (.int .i64 0)))
          generalize hV : ((w5.setCell ⟨ab, 0, none⟩ (.bool true)).setCell ⟨ab, 1, none⟩ (.int .u16 (y.1.seq : Nat))).setCell ⟨ab, 2, none⟩ (.int .i64 0) = V at *
          have co := HF.out.out.cell 0
          have fo := HF.out.out.free 0
          have a0 := HF.out.box.cell 0
          have a1 := HF.out.box.cell 1
          have a2 := HF.out.box.cell 2
          have hva := HF.out.box.lt
          have hvo := HF.out.out.lt
          have hBV := HF.out.touch.size
          obtain ⟨A1, c1, hA1⟩ := own_slice HF.out.own
          subst hA1
          simp at co a0 a1 a2
          have HX : Hid ((⟨true, y.1.seq, 0⟩ : An) = qAns ⟨4, sq, tm⟩ (qSt (ss.take k)) ∧ (ns).map itOf = qSt (ss.take (k + 1))) := by
            show _ ∧ _
            rw [qSt_take HS.out, ← HMAP.out]
            have h := itOf_take (fun x => decide (x.n = sq)) (fun n : Nd => decide (n.seq = sq)) (fun _ => rfl) ns
            rw [HOO.out] at h
            refine ⟨?_, rfl⟩
            show _ = anOf (Option.map Prod.fst (takeBy (fun x => decide (x.n = sq)) (ns.map itOf)))
            rw [h]
            rfl
          clear hV
          go_wp2_with (at_builtin; (refine wpList_append_lies _ rfl _ _ _ rfl w.heap.size 59 i0 _ 3 16 Try.underlying47 hi0 hz0 hz1 hz2 rfl (by decide) (.slice A1 k c1) k _ rfl (HF.out.own.alloc _) ⟨V.heap.size, 0, none⟩ 1 1 [.bool true, .int .u16 (y.1.seq : Nat), .int .i64 (0 : Nat)] rfl rfl (World.news_of_block (cs := #[.bool true, .int .u16 (y.1.seq : Nat), .int .i64 (0 : Nat)]) (t := 59) (fr := (0, 0)) (heap_alloc_new V _)) (by simp [Value.oneCell']) (by omega) (by simp only [maxLen]; omega) (by omega) (by simp; omega) (V.heap.size + 1) (by simp) ?_); intro gg cap w7 hown7 hgrow7 hat7 hlt7; obtain ⟨cb7, fb7⟩ := HF.out.after hgrow7 lo; have HO7 := Lib.hid hown7; have HG7 := Lib.hid hgrow7; clear hat7 hown7 hgrow7)
          refine ⟨⟨k + 1, by omega, by go_num, _, _, HF.out.done (x := ⟨true, y.1.seq, 0⟩) HS.out HX.out.1 HO7.out HG7.out lo (Nat.le_refl _), HX.out.2⟩, by simp [intOf]; omega⟩
      · have hsbq : Blk ((wr.alloc (.cells #[.int .i64 (5 : Nat), .int .u16 sq, .int .u32 tm] 45)).alloc (.cells #[.bool false, .int .u16 0, .int .i64 0] 59)) bq 95 #[.pointer (some ⟨g, 0, none⟩)] := (HBQ1.out.alloc _).alloc _
        have hsb : Blk ((wr.alloc (.cells #[.int .i64 (5 : Nat), .int .u16 sq, .int .u32 tm] 45)).alloc (.cells #[.bool false, .int .u16 0, .int .i64 0] 59)) wr.heap.size 45 #[.int .i64 (5 : Nat), .int .u16 sq, .int .u32 tm] := (Blk.new _ _ _).alloc _
        have hqm : QM bo g k w.heap.size (wr.heap.size + 1) ss w ((wr.alloc (.cells #[.int .i64 (5 : Nat), .int .u16 sq, .int .u32 tm] 45)).alloc (.cells #[.bool false, .int .u16 0, .int .i64 0] 59)) ns v #[.bool false, .int .u16 0, .int .i64 0] :=
          ⟨HQS.out.idle (((Touch.refl Nowhere wr).alloc _).alloc _), by rw [show wr.heap.size + 1 = (wr.alloc (.cells #[.int .i64 (5 : Nat), .int .u16 sq, .int .u32 tm] 45)).heap.size by simp]; exact Blk.new _ _ _, by omega⟩
        have hvb : ∀ b, v.ownBlock = some b → b ≠ wr.heap.size + 1 := fun b hb => by have := (HQS.out.own.lt b hb).2; omega
        have HSBQ := Lib.hid hsbq
        have HSB := Lib.hid hsb
        have HQM := Lib.hid hqm
        have HVB := Lib.hid hvb
        clear hsbq hsb hqm hvb
        go_upto_region 17 with fail
        generalize hW : ((wr.alloc (.cells #[.int .i64 (5 : Nat), .int .u16 sq, .int .u32 tm] 45)).alloc (.cells #[.bool false, .int .u16 0, .int .i64 0] 59)) = W at *
        clear hW y0 y1 y2
        generalize wr.heap.size + 1 = ab at *
        generalize wr.heap.size = sb at *
        have cq : W.cell? ⟨bq, 0, none⟩ = some (.pointer (some ⟨g, 0, none⟩)) := HSBQ.out.cell 0
        have t0 := HSB.out.cell 0
        have t1 := HSB.out.cell 1
        have t2 := HSB.out.cell 2
        simp at t0 t1 t2
        have hBW := HQM.out.touch.size
        go_wp2_with fail
        refine (len_any w.heap.size g ns.length ns W HQM.out.queue).mono ?_
        rintro e w5 ⟨rfl, hw5⟩
        have HQM5 : Hid (QM bo g k w.heap.size ab ss w w5 ns v #[.bool false, .int .u16 0, .int .i64 0]) := by rw [hw5]; exact HQM.out
        clear hw5
        have b0 := HQM5.out.box.cell 0
        have b1 := HQM5.out.box.cell 1
        have b2 := HQM5.out.box.cell 2
        have fb0 := HQM5.out.box.free 0
        have fb1 := HQM5.out.box.free 1
        have fb2 := HQM5.out.box.free 2
        simp at b0 b1 b2
        obtain ⟨L, hL⟩ : ∃ L, ns.length = L := ⟨_, rfl⟩
        have HL := Lib.hid hL
        rw [hL] at hnsl
        rw [hL]
        clear hL
        go_upto_region 18 with fail
        clear b0 b1 b2 fb0 fb1 fb2
        have HF := Lib.hid ((((HQM5.out.put HVB.out (Nat.le_refl _) lo 0 (.bool true)).put HVB.out (Nat.le_refl _) lo 1 (.int .u16 0)).put HVB.out (Nat.le_refl _) lo 2 (.int .i64 (L : Nat))))
        generalize hV : ((w5.setCell ⟨ab, 0, none⟩ (.bool true)).setCell ⟨ab, 1, none⟩ (.int .u16 0)).setCell ⟨ab, 2, none⟩ (.int .i64 (L : Nat)) = V at *
        have co := HF.out.out.cell 0
        have fo := HF.out.out.free 0
        have a0 := HF.out.box.cell 0
        have a1 := HF.out.box.cell 1
        have a2 := HF.out.box.cell 2
        have hva := HF.out.box.lt
        have hvo := HF.out.out.lt
        have hBV := HF.out.touch.size
        obtain ⟨A1, c1, hA1⟩ := own_slice HF.out.own
        subst hA1
        simp at co a0 a1 a2
        have HX : Hid ((⟨true, 0, L⟩ : An) = qAns ⟨5, sq, tm⟩ (qSt (ss.take k)) ∧ (ns).map itOf = qSt (ss.take (k + 1))) := by
          show _ ∧ _
          rw [qSt_take HS.out, ← HMAP.out]
          refine ⟨?_, rfl⟩
          show _ = (⟨true, 0, (ns.map itOf).length⟩ : An)
          rw [List.length_map, HL.out]
        clear hV
        go_wp2_with (at_builtin; (refine wpList_append_lies _ rfl _ _ _ rfl w.heap.size 59 i0 _ 3 16 Try.underlying47 hi0 hz0 hz1 hz2 rfl (by decide) (.slice A1 k c1) k _ rfl (HF.out.own.alloc _) ⟨V.heap.size, 0, none⟩ 1 1 [.bool true, .int .u16 (0 : Nat), .int .i64 (L : Nat)] rfl rfl (World.news_of_block (cs := #[.bool true, .int .u16 (0 : Nat), .int .i64 (L : Nat)]) (t := 59) (fr := (0, 0)) (heap_alloc_new V _)) (by simp [Value.oneCell']) (by omega) (by simp only [maxLen]; omega) (by omega) (by simp; omega) (V.heap.size + 1) (by simp) ?_); intro gg cap w7 hown7 hgrow7 hat7 hlt7; obtain ⟨cb7, fb7⟩ := HF.out.after hgrow7 lo; have HO7 := Lib.hid hown7; have HG7 := Lib.hid hgrow7; clear hat7 hown7 hgrow7)
        refine ⟨⟨k + 1, by omega, by go_num, _, _, HF.out.done (x := ⟨true, 0, L⟩) HS.out HX.out.1 HO7.out HG7.out lo (Nat.le_refl _), HX.out.2⟩, by simp [intOf]; omega⟩
    · have hkn : k = n := by omega
      have HI := Lib.hid hinv.out
      have HKN := Lib.hid hkn
      clear hinv hkn
      go_wp2_with fail
      go_end0
      exact ⟨rfl, HKN.out ▸ HI.out⟩
end Go.Proofs.Ytlkmmkphpiamcaa
