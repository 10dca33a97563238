/-
  impl.Feedbacks, impl.Feedback. Conditions: at most two batches, all numbers within 200, none twice. By an AI agent.
-/
import Derived.Test.YtlkmmkphpiamcaaBd
namespace Go.Proofs.Ytlkmmkphpiamcaa
open Go.RowKit

theorem blk_mkB {w : World} {k : Nat} {t : TypeId} {cs : Array Value} (h : k = w.heap.size) : Blk (w.alloc (.cells cs t)) k t cs := by subst h; exact Blk.new w t cs

/-- quietly over the closure that returns: true. -/
theorem quietly_57 (p1 p2 p3 p4 p5 : Value) (w : World) (R : World → Prop)
    (hg : Calls Try.prog 57 #[p1, p2, p3, p4, p5] (w.alloc (.cells #[.bool false] 4)) fun e w' => e = .returned (.tuple #[]) ∧ R w' ∧ Blk w' w.heap.size 4 #[.bool false]) :
    Calls Try.prog 32 #[.func (.func 57) #[] #[p1, p2, p3, p4, p5]] w fun e w' => e = .returned (.bool true) ∧ ∃ w1, R w1 ∧ w' = w1.setCell ⟨w.heap.size, 0, none⟩ (.bool true) := by
  have H := Lib.hid hg
  clear hg
  have hmf : ∀ (fn : Fn) (first cap : Array Value) (w : World), (Instr.makeFunc fn first cap).run Try.prog w = .ok (.func fn first cap) w := fun _ _ _ _ => rfl
  go_enter_defers Try.func32, Try.ntmps32
  go_wp2_with fail
  refine H.out.mono ?_
  rintro e w1 ⟨rfl, hR, hb⟩
  have hc := hb.cell 0
  have hf := hb.free 0
  simp only [List.getElem?_toArray, List.getElem?_cons_zero] at hc
  have HR := Lib.hid hR
  have HB := Lib.hid hb
  clear hR hb
  go_wp2_with fail
  refine leaves_cons (f := 61) (args := #[.pointer (some ⟨w.heap.size, 0, none⟩)]) (by simp) (by simp [go_sem]) ?_
  refine (catch_idle ⟨w.heap.size, 0, none⟩ _).mono ?_
  rintro e u' w'' ⟨rfl, rfl, rfl⟩
  have hb2 : (w1.setCell ⟨w.heap.size, 0, none⟩ (.bool true)).cell? ⟨w.heap.size, 0, none⟩ = some (.bool true) := by
    simp [go_sem, hc]
  simp [Leaves, settle, results, Try.results32, go_sem, hb2]
  exact ⟨w1, HR.out, rfl⟩

theorem Bats.below {w w' : World} {B B' : Nat} {Al Aa : Option Addr} {bs : List (List (Nat × Int))} (h : Bats w B Al Aa bs) (hb : Below B w w') (hB : B ≤ B') : Bats w' B' Al Aa bs := by
  intro j bt hj
  obtain ⟨al, aa, P, c, Q, d, h1, h2, h3, h4, h5, h6, h7, h8, h9, h10⟩ := h j bt hj
  exact ⟨al, aa, P, c, Q, d, h1, h2, by omega, by omega, (hb.cell (by rw [addr_block]; exact h3)).trans h5, (hb.cell (by rw [addr_block]; exact h4)).trans h6, h7, h8, (h9.below hb).more hB, (h10.below hb).more hB⟩

/-- What several batches give. -/
structure Outs (w : World) (base : Nat) (sd md : Int) (bs : List (List (Nat × Int))) (m : Nat) (v : Value) (outs : List (Value × List Rp)) : Prop where
  len : outs.length = m
  own : OwnsAt w base 71 1 v m (outs.map Prod.fst)
  reps : ∀ x ∈ outs, RepsAt w base x.1 x.2
  first : ∀ x bt, outs[0]? = some x → bs[0]? = some bt → First sd md bt x.2
  numb : ∀ x y, outs[0]? = some x → outs[1]? = some y → Numb x.2.length y.2
  sml : ∀ x ∈ outs, x.2.length ≤ 200

theorem fb_quiet (bl ba br bm bo r lo m c1 c2 B : Nat) (Al Aa : Option Addr) (bs : List (List (Nat × Int))) (sd md : Int) (w : World) (hx : Boxes w bl ba br bm bo r m c1 c2 Al Aa sd md)
    (hB : Bats w B Al Aa bs) (hBr : B ≤ r) (hBo : B ≤ bo) (hm : bs.length = m) (hm2 : m ≤ 2) (hc1 : m ≤ c1) (hok : BatsOk lo bs) :
    Calls Try.prog 32 #[.func (.func 57) #[] #[.pointer (some ⟨bl, 0, none⟩), .pointer (some ⟨ba, 0, none⟩), .pointer (some ⟨br, 0, none⟩), .pointer (some ⟨bm, 0, none⟩), .pointer (some ⟨bo, 0, none⟩)]] w
      fun e w' => e = .returned (.bool true) ∧ Touch (fun q => q = r ∨ q = bo) w w' ∧ ∃ v outs, Blk w' bo 76 #[v] ∧ Outs w' (w.heap.size + 1) sd md bs m v outs := by
  have lo1 := hx.o.lt
  have lr1 := hx.rec_.lt
  have hs : (w.alloc (.cells #[.bool false] 4)).heap.size = w.heap.size + 1 := by simp
  refine (quietly_57 _ _ _ _ _ w (fun w' => ∃ v outs, CI (w.alloc (.cells #[.bool false] 4)) w' r bo lo sd md bs m v outs) ?_).mono ?_
  · refine (fb_closure bl ba br bm bo r lo m c1 c2 B Al Aa bs sd md _ ⟨hx.l.alloc _, hx.a.alloc _, hx.rp.alloc _, hx.md.alloc _, hx.o.alloc _, hx.rec_.alloc _⟩ (hB.below ((Below.refl B w).alloc (by omega) _) (Nat.le_refl _)) hBr hBo hm hm2 hc1 hok).mono ?_
    rintro e w' ⟨rfl, v, outs, h⟩
    exact ⟨rfl, ⟨v, outs, h⟩, (Blk.new w 4 _).touch h.all (by omega)⟩
  · rintro e w' ⟨rfl, w1, ⟨v, outs, h⟩, rfl⟩
    have t1 : Touch (fun q => q = r ∨ q = bo) w w1 := ((Touch.refl _ w).alloc _).trans h.all fun _ _ h => h
    have t2 : Touch (· = w.heap.size) w1 (w1.setCell ⟨w.heap.size, 0, none⟩ (.bool true)) := (Touch.refl (· = w.heap.size) w1).setCell (p := ⟨w.heap.size, 0, none⟩) (fun _ => rfl) _
    refine ⟨rfl, t1.setCell (fun h => absurd h (by simp)) _, v, outs, h.box.touch t2 (by omega), ⟨h.len, ?_, fun x hx => ?_, h.first, h.numb, h.sml⟩⟩
    · have ho := OwnsAt.ofRow (own_far h.own (p := ⟨w.heap.size, 0, none⟩) (by simp) (.bool true))
      rwa [hs] at ho
    · obtain ⟨base, hb, hr, _⟩ := h.reps
      rw [hs] at hb
      exact ((hr x hx).keep t2 fun q hq hh => by omega).low hb

def FbsPost (sd md : Int) (bs : List (List (Nat × Int))) (m : Nat) (w : World) (e : Ending) (w' : World) : Prop :=
  Below w.heap.size w w' ∧ ∃ A c outs, e = .returned (.slice A m c) ∧ Outs w' w.heap.size sd md bs m (.slice A m c) outs

set_option maxRecDepth 1000000 in
set_option maxHeartbeats 1600000 in
theorem feedbacks_any (sd md : Int) (m c1 c2 lo : Nat) (Al Aa : Option Addr) (bs : List (List (Nat × Int))) (w : World) (hB : Bats w w.heap.size Al Aa bs) (hm : bs.length = m) (hm2 : m ≤ 2) (hc1 : m ≤ c1) (hok : BatsOk lo bs) :
    Calls Try.prog 30 #[.int .u32 sd, .int .u32 md, .slice Al m c1, .slice Aa m c2] w (FbsPost sd md bs m w) := by
  have hmf : ∀ (fn : Fn) (first cap : Array Value) (w : World), (Instr.makeFunc fn first cap).run Try.prog w = .ok (.func fn first cap) w := fun _ _ _ _ => rfl
  have HB := Lib.hid hB
  have HM := Lib.hid hm
  have HOK := Lib.hid hok
  clear hB hm hok
  go_enter Try.func30, Try.ntmps30
  go_wp2_with fail
  obtain ⟨W, hW⟩ : ∃ W, (((w.alloc (.cells #[.int .u32 md] 43)).alloc (.cells #[.slice Al m c1] 78)).alloc (.cells #[.slice Aa m c2] 79)).alloc (.cells #[.slice none 0 0] 76) = W := ⟨_, rfl⟩
  have hT : Touch Nowhere w W := by
    rw [← hW]
    exact ((((Touch.refl _ w).alloc _).alloc _).alloc _).alloc _
  have q0 : Blk W w.heap.size 43 #[.int .u32 md] := by
    rw [← hW]
    exact (((Blk.new _ _ _).alloc _).alloc _).alloc _
  have q1 : Blk W (w.heap.size + 1) 78 #[.slice Al m c1] := by
    rw [← hW]
    exact ((blk_mkB (by simp)).alloc _).alloc _
  have q2 : Blk W (w.heap.size + 1 + 1) 79 #[.slice Aa m c2] := by
    rw [← hW]
    exact (blk_mkB (by simp)).alloc _
  have q3 : Blk W (w.heap.size + 1 + 1 + 1) 76 #[.slice none 0 0] := by
    rw [← hW]
    exact blk_mkB (by simp)
  have hWs : W.heap.size = w.heap.size + 1 + 1 + 1 + 1 := by rw [← hW]; simp
  rw [hW]
  refine (newRec_any sd W).mono ?_
  rintro e w1 ⟨rfl, hr1, ht1⟩
  obtain ⟨r, hr⟩ : ∃ r, W.heap.size = r := ⟨_, rfl⟩
  rw [hr] at hr1 ⊢
  have HBX : Hid (Boxes (w1.alloc (.cells #[.pointer (some ⟨r, 0, none⟩)] 114)) (w.heap.size + 1) (w.heap.size + 1 + 1) w1.heap.size w.heap.size (w.heap.size + 1 + 1 + 1) r m c1 c2 Al Aa sd md) :=
    ⟨(q1.touch ht1 (fun h => h)).alloc _, (q2.touch ht1 (fun h => h)).alloc _, Blk.new _ _ _, (q0.touch ht1 (fun h => h)).alloc _, (q3.touch ht1 (fun h => h)).alloc _, hr1.alloc _⟩
  have HT2 := Lib.hid ((hT.trans ht1 fun _ _ h => h).alloc (.cells #[.pointer (some ⟨r, 0, none⟩)] 114))
  have HR := Lib.hid (show w.heap.size + 1 + 1 + 1 + 1 = r by omega)
  clear hT q0 q1 q2 q3 hWs hW hr1 ht1 hr
  go_wp2_with fail
  obtain ⟨V, hV⟩ : ∃ V, w1.alloc (.cells #[.pointer (some ⟨r, 0, none⟩)] 114) = V := ⟨_, rfl⟩
  have hbx := HBX.out
  have ht2 := HT2.out
  rw [hV] at hbx ht2 ⊢
  have hbel2 : Below w.heap.size w V := ht2.below (Nat.le_refl _) fun _ _ h => h
  refine (fb_quiet (w.heap.size + 1) (w.heap.size + 1 + 1) w1.heap.size w.heap.size (w.heap.size + 1 + 1 + 1) r lo m c1 c2 w.heap.size Al Aa bs sd md V hbx (HB.out.below hbel2 (Nat.le_refl _)) (by have := HR.out; omega) (by omega) HM.out hm2 hc1 HOK.out).mono ?_
  rintro e w5 ⟨rfl, ht5, v, outs, hb5, ho5⟩
  obtain ⟨A5, c5, rfl, _, _⟩ := ho5.own.shape
  have cv : w5.cell? ⟨w.heap.size + 1 + 1 + 1, 0, none⟩ = some (.slice A5 m c5) := hb5.cell 0
  have fv := hb5.free 0
  have t6 : Touch (· = w.heap.size + 1 + 1 + 1) w5 (w5.setCell ⟨w.heap.size + 1 + 1 + 1, 0, none⟩ (.slice A5 m c5)) := (Touch.refl (· = w.heap.size + 1 + 1 + 1) w5).setCell (p := ⟨w.heap.size + 1 + 1 + 1, 0, none⟩) (fun _ => rfl) _
  have hrr := HR.out
  have hVs : w.heap.size + 1 + 1 + 1 < V.heap.size := hbx.o.lt
  have hfin : Below w.heap.size w (w5.setCell ⟨w.heap.size + 1 + 1 + 1, 0, none⟩ (.slice A5 m c5)) ∧ Outs (w5.setCell ⟨w.heap.size + 1 + 1 + 1, 0, none⟩ (.slice A5 m c5)) w.heap.size sd md bs m (.slice A5 m c5) outs := by
    refine ⟨?_, ⟨ho5.len, ?_, fun x hx => ?_, ho5.first, ho5.numb, ho5.sml⟩⟩
    · have h1 : Touch (fun q => w.heap.size ≤ q) w V := ht2.mono fun _ _ h => h.elim
      have h2 : Touch (fun q => w.heap.size ≤ q) w w5 := h1.trans ht5 fun i hi hh => by omega
      exact (h2.trans t6 fun i hi hh => by omega).below (Nat.le_refl _) fun i hi hh => by omega
    · exact (ho5.own.far (p := ⟨w.heap.size + 1 + 1 + 1, 0, none⟩) (fun h => by have h1 : V.heap.size + 1 ≤ w.heap.size + 1 + 1 + 1 := (ho5.own.lt _ h).1; omega) _).low (by omega)
    · exact ((ho5.reps x hx).keep t6 fun q hq hh => by omega).low (by omega)
  have HF := Lib.hid hfin
  clear hfin t6 hb5 ho5 ht5 hbx ht2 hbel2 hV
  go_wp2_with fail
  have hc2 : (w5.setCell ⟨w.heap.size + 1 + 1 + 1, 0, none⟩ (.slice A5 m c5)).cell? ⟨w.heap.size + 1 + 1 + 1, 0, none⟩ = some (.slice A5 m c5) := by simp [go_sem, cv]
  refine bodyPost_ret (v := .slice A5 m c5) (by simp [results, Try.results30, go_sem, hc2]) rfl ⟨HF.out.1, A5, c5, outs, rfl, HF.out.2⟩

/-- What one batch gives. -/
def FbPost (sd md : Int) (bt : List (Nat × Int)) (w : World) (e : Ending) (w' : World) : Prop :=
  Below w.heap.size w w' ∧ ∃ A c rs, e = .returned (.slice A rs.length c) ∧ RepsAt w' w.heap.size (.slice A rs.length c) rs ∧ First sd md bt rs ∧ rs.length ≤ 200

set_option maxRecDepth 1000000 in
set_option maxHeartbeats 1600000 in
theorem feedback_any (sd md : Int) (n c d lo : Nat) (P Q : Option Addr) (bt : List (Nat × Int)) (w : World) (hP : Reads w w.heap.size 1 P n (seqs bt)) (hQ : Reads w w.heap.size 1 Q n (times bt)) (hn : bt.length = n) (hnc : n ≤ c) (hnd : n ≤ d) (hok : BatsOk lo [bt]) :
    Calls Try.prog 29 #[.int .u32 sd, .int .u32 md, .slice P n c, .slice Q n d] w (FbPost sd md bt w) := by
  have HP := Lib.hid hP
  have HQ := Lib.hid hQ
  have HN := Lib.hid hn
  have HOK := Lib.hid hok
  clear hP hQ hn hok
  go_enter Try.func29, Try.ntmps29
  go_wp2_with fail
  obtain ⟨W, hW⟩ : ∃ W, (w.alloc (.cells #[.slice P n c] 22)).alloc (.cells #[.slice Q n d] 23) = W := ⟨_, rfl⟩
  have hT : Touch Nowhere w W := by
    rw [← hW]
    exact ((Touch.refl _ w).alloc _).alloc _
  have hTb : Below w.heap.size w W := hT.below (Nat.le_refl _) fun _ _ h => h
  have q0 : Blk W w.heap.size 22 #[.slice P n c] := by
    rw [← hW]
    exact (Blk.new _ _ _).alloc _
  have q1 : Blk W (w.heap.size + 1) 23 #[.slice Q n d] := by
    rw [← hW]
    exact blk_mkB (by simp)
  have hbats : Bats W W.heap.size (some ⟨w.heap.size, 0, none⟩) (some ⟨w.heap.size + 1, 0, none⟩) [bt] := by
    intro j b' hj
    have hj0 : j = 0 := by
      have := (List.getElem?_eq_some_iff.1 hj).1
      simpa using this
    subst hj0
    simp only [List.getElem?_cons_zero, Option.some.injEq] at hj
    subst hj
    have hn' := HN.out
    refine ⟨_, _, P, c, Q, d, rfl, rfl, q0.lt, q1.lt, ?_, ?_, by omega, by omega, ?_, ?_⟩
    · rw [hn']
      exact q0.cell 0
    · rw [hn']
      exact q1.cell 0
    · rw [hn']
      exact (HP.out.below hTb).more hT.size
    · rw [hn']
      exact (HQ.out.below hTb).more hT.size
  rw [hW]
  refine (feedbacks_any sd md 1 1 1 lo _ _ [bt] W hbats rfl (by omega) (by omega) HOK.out).mono ?_
  rintro e w2 ⟨hb2, A2, c2, outs, rfl, ho2⟩
  obtain ⟨x, rfl⟩ : ∃ x, outs = [x] := by
    have := ho2.len
    match outs, this with
    | [x], _ => exact ⟨x, rfl⟩
  obtain ⟨v, rs⟩ := x
  have hrep := ho2.reps (v, rs) (by simp)
  simp only at hrep
  obtain ⟨A3, c3, hv, _, _⟩ : ∃ A3 c3, v = .slice A3 rs.length c3 ∧ rs.length ≤ c3 ∧ c3 ≤ maxLen := by
    obtain ⟨ts, _, h2, _⟩ := hrep
    exact h2.shape
  subst hv
  obtain ⟨ad, rfl, _, _, hcell⟩ := ho2.own.cells (by omega)
  have hc0 := hcell 0 (.slice A3 rs.length c3) (by simp)
  have hc1 : w2.cell? ad = some (.slice A3 rs.length c3) := by simpa [Addr.add] using hc0
  have hsz := hT.size
  have HFIN : Hid (FbPost sd md bt w (.returned (.slice A3 rs.length c3)) w2) := ⟨hTb.trans (hb2.mono hsz), A3, c3, rs, rfl, hrep.low hsz, ho2.first _ bt rfl rfl, ho2.sml (.slice A3 rs.length c3, rs) (by simp)⟩
  clear hcell hc0 hrep ho2 hb2 hbats q0 q1 hT hTb hW hsz
  go_wp2_with fail
  go_ret
  exact HFIN.out
end Go.Proofs.Ytlkmmkphpiamcaa
