/-
  The walk of FnFeedbacks. Condition: the slices read as numbers. By an AI agent.
-/
import Derived.Test.YtlkmmkphpiamcaaBi
namespace Go.Proofs.Ytlkmmkphpiamcaa
open Go.RowKit

def Some3b (F : Nat → Value → Bool → World → Prop) (A : Nat → Value → Bool → Act) : Exit → Act → World → Prop := fun e a w => match e with
  | .normal => ∃ p v b, F p v b w ∧ a = A p v b
  | _ => False
theorem wp_some3b {P : Program} {c : Code} {Q : Exit → Act → World → Prop} {a : Act} {w : World} (F : Nat → Value → Bool → World → Prop) (A : Nat → Value → Bool → Act) (h : c.wp P (Some3b F A) a w) (hq : ∀ p v b w2, F p v b w2 → Q .normal (A p v b) w2) : c.wp P Q a w :=
  Code.wp_mono (fun e a w h => by
    cases e <;> first | (obtain ⟨p, v, b, hf, rfl⟩ := h; exact hq p v b w hf) | exact h.elim) h
def Some4 (F : Nat → Nat → Option Addr → Nat → World → Prop) (A : Nat → Nat → Option Addr → Nat → Act) : Exit → Act → World → Prop := fun e a w => match e with
  | .normal => ∃ p q G c, F p q G c w ∧ a = A p q G c
  | _ => False
theorem wp_some4 {P : Program} {c : Code} {Q : Exit → Act → World → Prop} {a : Act} {w : World} (F : Nat → Nat → Option Addr → Nat → World → Prop) (A : Nat → Nat → Option Addr → Nat → Act) (h : c.wp P (Some4 F A) a w) (hq : ∀ p q G c w2, F p q G c w2 → Q .normal (A p q G c) w2) : c.wp P Q a w :=
  Code.wp_mono (fun e a w h => by
    cases e <;> first | (obtain ⟨p, q, G, c, hf, rfl⟩ := h; exact hq p q G c w hf) | exact h.elim) h

/-- One report of a list, at a later world. -/
theorem RepsAt.at_ {w w' : World} {base n c j : Nat} {A : Option Addr} {rs : List Rp} {r : Rp} (h : RepsAt w base (.slice A n c) rs) (hb : Below w.heap.size w w') (hj : rs[j]? = some r) :
    ∃ g off Aa ka Ab kb, A = some ⟨g, off, none⟩ ∧ w'.cell? ⟨g, off + j * 8, none⟩ = some (.int .u32 r.sd) ∧ w'.cell? ⟨g, off + j * 8 + 1, none⟩ = some (.int .u32 r.md) ∧ w'.cell? ⟨g, off + j * 8 + 2, none⟩ = some (.int .i64 (r.bs : Int)) ∧ w'.cell? ⟨g, off + j * 8 + 3, none⟩ = some (.int .i64 (r.S.length : Int)) ∧
      w'.cell? ⟨g, off + j * 8 + 4, none⟩ = some (.int .u32 r.ref) ∧ w'.cell? ⟨g, off + j * 8 + 5, none⟩ = some (.int .i64 (r.fb : Int)) ∧ w'.cell? ⟨g, off + j * 8 + 6, none⟩ = some (.slice Aa r.S.length ka) ∧ w'.cell? ⟨g, off + j * 8 + 7, none⟩ = some (.slice Ab r.D.length kb) := by
  obtain ⟨ts, rfl, hown, hrow⟩ := h
  rw [List.getElem?_map] at hj
  cases ht : ts[j]? with
  | none => rw [ht] at hj; cases hj
  | some t =>
    rw [ht] at hj
    injection hj with hj
    subst hj
    have hlt : j < ts.length := (List.getElem?_eq_some_iff.1 ht).1
    have hn : n = (ts.map Prod.fst).length := by
      obtain ⟨_, _, hv, _⟩ := hown.shape
      injection hv
    subst hn
    obtain ⟨g, off, rfl, hg, _, hcell⟩ := hown.litc (by rw [List.length_map]; omega)
    have hr := hrow t (List.mem_of_getElem? ht)
    obtain ⟨Aa, ka, ha, _⟩ := hr.S.shape
    obtain ⟨Ab, kb, hbb, _⟩ := hr.D.shape
    have key : ∀ i u, (rpCells t.1 t.2.1 t.2.2)[i]? = some u → w'.cell? ⟨g, off + j * 8 + i, none⟩ = some u := fun i u hu => by
      have h1 := hcell (j * 8 + i) u (rowsCells_at ts j t ht i u hu)
      rw [← Nat.add_assoc] at h1
      exact (hb.cell (p := ⟨g, off + j * 8 + i, none⟩) hg).trans h1
    refine ⟨g, off, Aa, ka, Ab, kb, rfl, key 0 _ rfl, key 1 _ rfl, key 2 _ rfl, key 3 _ rfl, key 4 _ rfl, key 5 _ rfl, key 6 _ ?_, key 7 _ ?_⟩
    · rw [← ha]; rfl
    · rw [← hbb]; rfl

theorem take_zip {xs : List Nat} {ts : List Int} (k : Nat) : (xs.take k).zip (ts.take k) = (xs.zip ts).take k := by simp only [List.zip, List.take_zipWith]
theorem seqs_take (bt : List (Nat × Int)) (k : Nat) : seqs (bt.take k) = (seqs bt).take k := by simp [seqs, List.map_take]
theorem seqs_drop (bt : List (Nat × Int)) (k : Nat) : seqs (bt.drop k) = (seqs bt).drop k := by simp [seqs, List.map_drop]
theorem times_take (bt : List (Nat × Int)) (k : Nat) : times (bt.take k) = (times bt).take k := by simp [times, List.map_take]
theorem times_drop (bt : List (Nat × Int)) (k : Nat) : times (bt.drop k) = (times bt).drop k := by simp [times, List.map_drop]

/-- Two batches out of one. -/
theorem two_bats {W : World} {B n c d k p q : Nat} {ad aq : Addr} {bt : List (Nat × Int)} (hP : Reads W B 1 (some ad) n (seqs bt)) (hQ : Reads W B 1 (some aq) n (times bt)) (hn : bt.length = n) (hk : k < n) (hnc : n ≤ c) (hnd : n ≤ d) (hB : B ≤ W.heap.size)
    (hp : Blk W p 22 #[.slice (some ad) k c, .slice (some (ad.add k)) (n - k) (c - k)]) (hq : Blk W q 23 #[.slice (some aq) k d, .slice (some (aq.add k)) (n - k) (d - k)]) : Bats W W.heap.size (some ⟨p, 0, none⟩) (some ⟨q, 0, none⟩) [bt.take k, bt.drop k] := by
  have hl1 : (bt.take k).length = k := by rw [List.length_take]; omega
  have hl2 : (bt.drop k).length = n - k := by rw [List.length_drop, hn]
  intro j b hj
  have hj2 : j = 0 ∨ j = 1 := by
    have := (List.getElem?_eq_some_iff.1 hj).1
    simp at this
    omega
  rcases hj2 with rfl | rfl
  · simp only [List.getElem?_cons_zero, Option.some.injEq] at hj
    subst hj
    rw [hl1]
    refine ⟨_, _, some ad, c, some aq, d, rfl, rfl, hp.lt, hq.lt, hp.cell 0, hq.cell 0, by omega, by omega, ?_, ?_⟩
    · have h := (hP.take (k := k) (by omega)).more hB
      rw [Nat.mul_one, ← seqs_take] at h
      exact h
    · have h := (hQ.take (k := k) (by omega)).more hB
      rw [Nat.mul_one, ← times_take] at h
      exact h
  · simp only [List.getElem?_cons_succ, List.getElem?_cons_zero, Option.some.injEq] at hj
    subst hj
    rw [hl2]
    refine ⟨_, _, some (ad.add k), c - k, some (aq.add k), d - k, rfl, rfl, hp.lt, hq.lt, hp.cell 1, hq.cell 1, by omega, by omega, ?_, ?_⟩
    · have h := (hP.cut (k := k) (cap := c) (by omega) hnc).more hB
      rw [if_neg (by omega), Nat.mul_one, ← seqs_drop] at h
      exact h
    · have h := (hQ.cut (k := k) (cap := d) (by omega) hnd).more hB
      rw [if_neg (by omega), Nat.mul_one, ← times_drop] at h
      exact h

theorem two_of_len {α : Type} {l : List α} (h : l.length = 2) : ∃ x y, l = [x, y] := by
  match l, h with
  | [x, y], _ => exact ⟨x, y, rfl⟩
theorem Outs.low {w : World} {base b : Nat} {sd md : Int} {bs : List (List (Nat × Int))} {m : Nat} {v : Value} {outs : List (Value × List Rp)} (h : Outs w base sd md bs m v outs) (hb : b ≤ base) : Outs w b sd md bs m v outs := ⟨h.len, h.own.low hb, fun x hx => (h.reps x hx).low hb, h.first, h.numb, h.sml⟩
theorem RepsAt.shape {w : World} {base : Nat} {v : Value} {rs : List Rp} (h : RepsAt w base v rs) : ∃ A c, v = .slice A rs.length c := by
  obtain ⟨ts, _, h2, _⟩ := h
  obtain ⟨A, c, hv, _⟩ := h2.shape
  exact ⟨A, c, hv⟩

set_option maxRecDepth 1000000 in
set_option maxHeartbeats 4000000 in
theorem fnFeedbacks_any (sd md kk : Int) (n c m d : Nat) (A Q : Option Addr) (ls ts : List Int) (w : World) (hr : Reads w w.heap.size 1 A n (ls.map (Value.int .u16))) (hq : Reads w w.heap.size 1 Q m (ts.map (Value.int .i64))) (hls : ∀ x ∈ ls, 0 ≤ x ∧ x ≤ 65535)
    (hn : n ≤ 9223372036854775807) (hm : m ≤ 9223372036854775807) (hnc : n ≤ c) (hmd : m ≤ d) : Calls Try.prog 9 #[.int .u32 sd, .int .u32 md, .slice A n c, .slice Q m d, .int .i64 kk] w (Holds w) := by
  have hlen : ls.length = n := by simpa using hr.1
  have HR := Lib.hid hr
  have HQ : Hid (Reads w w.heap.size 1 Q m (i64s ts)) := hq
  have HLS := Lib.hid hls
  have HL := Lib.hid hlen
  clear hr hq hls hlen
  by_cases hbig : 2147483647 < n
  · go_enter Try.func9, Try.ntmps9
    go_wp2_with fail
    go_ret
    exact ⟨rfl, Below.refl _ _⟩
  have hn2 : n ≤ 2147483647 := by omega
  clear hbig
  by_cases hbig : 2147483647 < m
  · go_enter Try.func9, Try.ntmps9
    go_wp2_with fail
    go_ret
    exact ⟨rfl, Below.refl _ _⟩
  have hm2 : m ≤ 2147483647 := by omega
  clear hbig
  go_enter Try.func9, Try.ntmps9
  go_wp2_with fail
  refine (line_cap n c A ls w HR.out hn2 HLS.out).mono ?_
  rintro v w1 ⟨hb1, rfl | ⟨A1, c1, outs, rfl, hr1, hst, hnc1⟩⟩
  · have HB1 := Lib.hid hb1
    clear hb1
    go_wp2_with fail
    refine (works_true w1).mono ?_
    rintro e w2 ⟨rfl, hb2⟩
    have HB2 := Lib.hid hb2
    clear hb2
    go_wp2_with fail
    go_ret
    exact ⟨rfl, HB1.out.trans (HB2.out.mono HB1.out.size)⟩
  have HB1 := Lib.hid hb1
  by_cases h100 : 100 < n
  · clear hb1
    go_wp2_with fail
    refine (works_true w1).mono ?_
    rintro e w2 ⟨rfl, hb2⟩
    have HB2 := Lib.hid hb2
    clear hb2
    go_wp2_with fail
    go_ret
    exact ⟨rfl, HB1.out.trans (HB2.out.mono HB1.out.size)⟩
  by_cases hk1 : kk < 1
  · clear hb1
    go_wp2_with fail
    refine (works_true w1).mono ?_
    rintro e w2 ⟨rfl, hb2⟩
    have HB2 := Lib.hid hb2
    clear hb2
    go_wp2_with fail
    go_ret
    exact ⟨rfl, HB1.out.trans (HB2.out.mono HB1.out.size)⟩
  by_cases hk2 : (n : Int) ≤ kk
  · clear hb1
    go_wp2_with fail
    refine (works_true w1).mono ?_
    rintro e w2 ⟨rfl, hb2⟩
    have HB2 := Lib.hid hb2
    clear hb2
    go_wp2_with fail
    go_ret
    exact ⟨rfl, HB1.out.trans (HB2.out.mono HB1.out.size)⟩
  obtain ⟨k, rfl⟩ : ∃ k : Nat, kk = k := ⟨kk.toNat, by omega⟩
  obtain ⟨xs, rfl, hxl, hx4, hmod, hx0⟩ := line_nat hst HLS.out (by rw [HL.out]; omega)
  have hI : Reads w1 w1.heap.size 1 A1 n (I64n xs) := by
    have e : I64n xs = (xs.map fun q : Nat => (q : Int)).map (Value.int .i64) := by simp [I64n]
    rw [e]
    exact hr1
  have HI := Lib.hid hI
  have HSF := Lib.hid (sfb_any n c1 m d w1.heap.size A1 Q xs ts w1 hI ((HQ.out.below hb1).more hb1.size) (Nat.le_refl _) (by omega) hnc1 hm (fun x hx => by have := hx4 x hx; omega))
  have HX := Lib.hid (And.intro hxl (And.intro hx4 (And.intro hmod hx0)))
  have hk0 : k < n := by omega
  have hk10 : 1 ≤ k := by omega
  clear hb1 hr1 hst hI hxl hx4 hmod hx0
  go_wp2_with fail
  refine HSF.out.mono ?_
  rintro v w2 ⟨hb2, bs, cn, rf, S1, n1, k1, S2, n2, k2, b, rfl, hT⟩
  have HB2 := Lib.hid (HB1.out.trans (hb2.mono HB1.out.size))
  have HB12 := Lib.hid hb2
  have hsz2 := hb2.size
  clear hb2 HSF
  cases b with
  | false =>
    clear hT
    go_wp2_with fail
    refine (works_true _).mono ?_
    rintro e w3 ⟨rfl, hb3⟩
    have HB3 := Lib.hid hb3
    clear hb3
    go_wp2_with fail
    go_ret
    exact ⟨rfl, HB2.out.trans (((Below.refl w2.heap.size w2).alloc (Nat.le_refl _) _ |>.trans (HB3.out.mono (by simp))).mono (HB2.out.size))⟩
  | true =>
    obtain ⟨s, e, st, hT1, -, -, -, -, -, -, -⟩ := hT rfl
    clear hT
    have hmn : m = n := by
      have h1 := hT1.len
      have h2 := HX.out.1
      have h3 := HL.out
      have h4 : ts.length = m := by simpa [i64s] using HQ.out.1
      omega
    subst hmn
    have HT := Lib.hid hT1
    clear hT1
    obtain ⟨W3, hW3⟩ : ∃ W3, w2.alloc (.cells #[.int .i64 bs, .int .i64 cn, .int .u32 rf, .slice S1 n1 k1, .slice S2 n2 k2] 68) = W3 := ⟨_, rfl⟩
    have hb3 : Below w2.heap.size w2 W3 := by rw [← hW3]; exact (Below.refl _ _).alloc (Nat.le_refl _) _
    have HB3 := Lib.hid (HB2.out.trans (hb3.mono HB2.out.size))
    obtain ⟨qa, hqa⟩ : ∃ qa, Q = some qa := by
      obtain ⟨qa, h, _⟩ := HQ.out.2 (by omega)
      exact ⟨qa, h⟩
    obtain ⟨pa, hpa⟩ : ∃ pa, A = some pa := by
      obtain ⟨pa, h, _⟩ := HR.out.2 (by omega)
      exact ⟨pa, h⟩
    obtain ⟨xa, hxa⟩ : ∃ xa, A1 = some xa := by
      obtain ⟨xa, h, _⟩ := HI.out.2 (by omega)
      exact ⟨xa, h⟩
    subst hqa hpa hxa
    have HSF2 : Hid (∀ W, Touch Nowhere W3 W → Calls Try.prog 28 #[.slice (some xa) k c1, .slice (some qa) k d] W (SFPost (xs.take k) (ts.take k) W)) := by
      intro W hW
      have hbW : Below w1.heap.size w1 W := HB12.out.trans ((hb3.trans (hW.below hb3.size fun _ _ h => h)).mono HB12.out.size)
      have h1 := (HI.out.below hbW).take (k := k) (by omega)
      have h2 := ((HQ.out.below (HB1.out.trans (hbW.mono HB1.out.size))).more HB1.out.size).take (k := k) (by omega)
      rw [Nat.mul_one] at h1 h2
      have e1 : (I64n xs).take k = I64n (xs.take k) := by simp [I64n, List.map_take]
      have e2 : (i64s ts).take k = i64s (ts.take k) := by simp [i64s, List.map_take]
      rw [e1] at h1
      rw [e2] at h2
      exact sfb_any k c1 k d w1.heap.size _ _ (xs.take k) (ts.take k) W h1 h2 hbW.size (by omega) (by omega) (by omega) fun x hx => by have := HX.out.2.1 x (List.mem_of_mem_take hx); omega
    have hk64 : (k : Int) ≤ (m : Int) := by omega
    have hk65 : (0 : Int) ≤ (k : Int) := by omega
    have hkc1 : (k : Int) ≤ (c1 : Int) := by omega
    have hkd : (k : Int) ≤ (d : Int) := by omega
    have HW3 := Lib.hid hW3
    clear hW3 hb3
    go_upto_region 9 with fail
    rw [HW3.out]
    apply wp_some3b (fun p v b W => Below W3.heap.size W3 W ∧ (b = true → ∃ s2 e2 st2, Tells (xs.take k) (ts.take k) s2 e2 st2))
    · go_region_held3 (fun _ => True) (exact True.intro) (first | (go_at_call 28; refine (HSF2.out _ ((Touch.refl Nowhere W3).drew)).mono ?_; rintro v9 w9 ⟨hb9, bs9, cn9, rf9, S19, n19, k19, S29, n29, k29, b9, rfl, hT9⟩; have HB9 := Lib.hid hb9; have HT9 := Lib.hid hT9; clear hb9 hT9) | (go_at_call 28; refine (HSF2.out _ (((Touch.refl Nowhere W3).alloc (.cells #[.int .i64 0, .int .i64 0, .int .u32 0, .slice none 0 0, .slice none 0 0] 68)).drew)).mono ?_; rintro v9 w9 ⟨hb9, bs9, cn9, rf9, S19, n19, k19, S29, n29, k29, b9, rfl, hT9⟩; have hbk9 := ((Blk.new W3 68 #[.int .i64 0, .int .i64 0, .int .u32 0, .slice none 0 0, .slice none 0 0]).drew).below hb9 (by simp); have r0 : w9.cell? ⟨W3.heap.size, 0, none⟩ = some (.int .i64 0) := hbk9.cell 0; have r1 : w9.cell? ⟨W3.heap.size, 1, none⟩ = some (.int .i64 0) := hbk9.cell 1; have r2 : w9.cell? ⟨W3.heap.size, 2, none⟩ = some (.int .u32 0) := hbk9.cell 2; have r3 : w9.cell? ⟨W3.heap.size, 3, none⟩ = some (.slice none 0 0) := hbk9.cell 3; have r4 : w9.cell? ⟨W3.heap.size, 4, none⟩ = some (.slice none 0 0) := hbk9.cell 4; have f0 := hbk9.free 0; have f1 := hbk9.free 1; have f2 := hbk9.free 2; have f3 := hbk9.free 3; have f4 := hbk9.free 4; have HB9 := Lib.hid hb9; have HT9 := Lib.hid hT9; clear hb9 hT9 hbk9))
      · refine ⟨w9.heap.size, .agg #[.int .i64 bs9, .int .i64 cn9, .int .u32 rf9, .slice S19 n19 k19, .slice S29 n29 k29], b9, ⟨?_, fun h => by obtain ⟨s2, e2, st2, h1, _⟩ := HT9.out h; exact ⟨s2, e2, st2, h1⟩⟩, ?_⟩
        · have h1 : Below W3.heap.size W3 w9 := ⟨HB9.out.os, HB9.out.tape, HB9.out.output, HB9.out.size, HB9.out.block⟩
          exact h1.alloc h1.size _
        · generalize Value.agg #[.int .i64 bs9, .int .i64 cn9, .int .u32 rf9, .slice S19 n19 k19, .slice S29 n29 k29] = v0
          generalize w9.heap.size = p0
          exact rfl
      · refine ⟨W3.heap.size, .agg #[.int .i64 bs9, .int .i64 cn9, .int .u32 rf9, .slice S19 n19 k19, .slice S29 n29 k29], b9, ⟨?_, fun h => by obtain ⟨s2, e2, st2, h1, _⟩ := HT9.out h; exact ⟨s2, e2, st2, h1⟩⟩, rfl⟩
        have t1 : Touch Nowhere W3 w9 := (((Touch.refl Nowhere W3).alloc _).drew).trans (Touch.ofBelow (S := Nowhere) HB9.out fun i hi h => by omega) fun _ _ h => h
        have hne : ∀ i, (⟨W3.heap.size, i, none⟩ : Addr).block < W3.heap.size → Nowhere (⟨W3.heap.size, i, none⟩ : Addr).block := fun i h => absurd h (Nat.lt_irrefl _)
        exact (((((t1.setCell (p := ⟨W3.heap.size, 0, none⟩) (hne 0) _).setCell (p := ⟨W3.heap.size, 1, none⟩) (hne 1) _).setCell (p := ⟨W3.heap.size, 2, none⟩) (hne 2) _).setCell (p := ⟨W3.heap.size, 3, none⟩) (hne 3) _).setCell (p := ⟨W3.heap.size, 4, none⟩) (hne 4) _).below (Nat.le_refl _) fun _ _ h => h
    intro p vv b4 W4 hF4
    have HB4 := Lib.hid (HB3.out.trans (hF4.1.mono HB3.out.size))
    cases b4 with
    | false =>
      clear hF4
      go_wp2_with fail
      refine (works_true _).mono ?_
      rintro e w9 ⟨rfl, hb9⟩
      have HB9 := Lib.hid hb9
      clear hb9
      go_wp2_with fail
      go_ret
      exact ⟨rfl, HB4.out.trans (HB9.out.mono HB4.out.size)⟩
    | true =>
      obtain ⟨s2, e2, st2, hT2⟩ := hF4.2 rfl
      have HT2 := Lib.hid hT2
      clear hT2 hF4
      have hk0' : k < m := hk0
      have hxt : (xs.zip ts).length = m := by rw [List.length_zip, HX.out.1, HL.out, ← HT.out.len, HX.out.1, HL.out]; omega
      have HXT := Lib.hid hxt
      clear hxt
      have HFB2 : Hid (∀ (W : World) (p q : Nat), Touch Nowhere W4 W → Blk W p 22 #[.slice (some pa) k c, .slice (some (pa.add k)) (m - k) (c - k)] → Blk W q 23 #[.slice (some qa) k d, .slice (some (qa.add k)) (m - k) (d - k)] →
          Calls Try.prog 30 #[.int .u32 sd, .int .u32 md, .slice (some ⟨p, 0, none⟩) 2 2, .slice (some ⟨q, 0, none⟩) 2 2] W (FbsPost sd md [(xs.zip ts).take k, (xs.zip ts).drop k] 2 W)) := by
        intro W p q hW hp hq
        have hbW : Below w.heap.size w W := HB4.out.trans (hW.below HB4.out.size fun _ _ h => h)
        have hP : Reads W w.heap.size 1 (some pa) m (seqs (xs.zip ts)) := by rw [seqs_zip HT.out.len HX.out.1 HX.out.2.2.1]; exact HR.out.below hbW
        have hQ2 : Reads W w.heap.size 1 (some qa) m (times (xs.zip ts)) := by rw [times_zip HT.out.len]; exact HQ.out.below hbW
        refine feedbacks_any sd md 2 2 2 s _ _ _ W (two_bats hP hQ2 HXT.out hk0 hnc hmd hbW.size hp hq) rfl (by omega) (by omega) (HT.out.batch HX.out.2.1 HX.out.2.2.2 _ (by simp) fun bt hbt => ?_)
        have hx := HXT.out
        simp only [List.mem_cons, List.not_mem_nil, or_false] at hbt
        rcases hbt with rfl | rfl
        · have h1 : ((xs.zip ts).take k).length = k := by rw [List.length_take]; omega
          exact ⟨fun h => by rw [h] at h1; simp at h1; omega, by omega⟩
        · have h1 : ((xs.zip ts).drop k).length = m - k := by rw [List.length_drop, hx]
          exact ⟨fun h => by rw [h] at h1; simp at h1; omega, by omega⟩
      have HFB1 : Hid (∀ W, Below w.heap.size w W → Calls Try.prog 29 #[.int .u32 sd, .int .u32 md, .slice (some pa) k c, .slice (some qa) k d] W (FbPost sd md ((xs.zip ts).take k) W)) := by
        intro W hbW
        have hx := HXT.out
        have h1 : ((xs.zip ts).take k).length = k := by rw [List.length_take]; omega
        have hP := ((HR.out.below hbW).take (k := k) (by omega)).more hbW.size
        have hQ2 := ((HQ.out.below hbW).take (k := k) (by omega)).more hbW.size
        rw [Nat.mul_one, ← seqs_zip HT.out.len HX.out.1 HX.out.2.2.1, ← seqs_take] at hP
        rw [Nat.mul_one, ← times_zip HT.out.len, ← times_take] at hQ2
        refine feedback_any sd md k c d s2 _ _ _ W hP hQ2 h1 (by omega) (by omega) (HT2.out.batch (fun x hx => HX.out.2.1 x (List.mem_of_mem_take hx)) (fun x hx => HX.out.2.2.2 x (by rw [List.getElem?_take] at hx; split at hx; exact hx; cases hx)) _ (by rw [take_zip]; simp) fun bt hbt => ?_)
        simp only [List.mem_singleton] at hbt
        subst hbt
        exact ⟨fun h => by rw [h] at h1; simp at h1; omega, by omega⟩
      have hkc : (k : Int) ≤ (c : Int) := by omega
      have hck : ¬ c = k := by omega
      have hdk : ¬ d = k := by omega
      have hkm : (k : Int) ≤ (m : Int) := by omega
      have HC1 := Lib.hid (HFB2.out (((W4.alloc (.cells #[.slice (some pa) k c, .slice (some (pa.add k)) (m - k) (c - k)] 22)).alloc (.cells #[.slice (some qa) k d, .slice (some (qa.add k)) (m - k) (d - k)] 23)).drew) W4.heap.size (W4.heap.size + 1) ((((Touch.refl Nowhere W4).alloc _).alloc _).drew) ((Blk.new W4 22 _).alloc _).drew (blk_mkB (by simp)).drew)
      have HC2 := Lib.hid (HFB2.out (((W4.alloc (.cells #[.slice (some qa) k d, .slice (some (qa.add k)) (m - k) (d - k)] 23)).alloc (.cells #[.slice (some pa) k c, .slice (some (pa.add k)) (m - k) (c - k)] 22)).drew) (W4.heap.size + 1) W4.heap.size ((((Touch.refl Nowhere W4).alloc _).alloc _).drew) (blk_mkB (by simp)).drew ((Blk.new W4 23 _).alloc _).drew)
      go_upto_region 12 with fail
      apply wp_some4 (fun p q G gc W => Below W4.heap.size W4 W ∧ ∃ outs, Outs W W4.heap.size sd md [(xs.zip ts).take k, (xs.zip ts).drop k] 2 (.slice G 2 gc) outs)
      · go_region_held3 (fun _ => True) (exact True.intro) (first | (go_at_call 30; (with_reducible refine HC1.out.mono ?_); rintro v9 w9 ⟨hb9, G9, c9, outs9, rfl, ho9⟩; have HB9 := Lib.hid hb9; have HO9 := Lib.hid ho9; clear hb9 ho9) | (go_at_call 30; (with_reducible refine HC2.out.mono ?_); rintro v9 w9 ⟨hb9, G9, c9, outs9, rfl, ho9⟩; have HB9 := Lib.hid hb9; have HO9 := Lib.hid ho9; clear hb9 ho9))
        · refine ⟨W4.heap.size, W4.heap.size + 1, G9, c9, ⟨?_, outs9, HO9.out.low (by simp; omega)⟩, ?_⟩
          · exact ((((((Touch.refl Nowhere W4).alloc _).alloc _).drew).trans (Touch.ofBelow (S := Nowhere) HB9.out fun i hi h => by omega) fun _ _ h => h)).below (Nat.le_refl _) fun _ _ h => h
          · generalize W4.heap.size + 1 = z0
            generalize W4.heap.size = y0
            exact rfl
        · refine ⟨W4.heap.size + 1, W4.heap.size, G9, c9, ⟨?_, outs9, HO9.out.low (by simp; omega)⟩, rfl⟩
          exact ((((((Touch.refl Nowhere W4).alloc _).alloc _).drew).trans (Touch.ofBelow (S := Nowhere) HB9.out fun i hi h => by omega) fun _ _ h => h)).below (Nat.le_refl _) fun _ _ h => h
      intro p9 q9 G gc W9 hF9
      obtain ⟨hb9, outs, ho⟩ := hF9
      obtain ⟨⟨v0, rs0⟩, ⟨v1, rs1⟩, rfl⟩ : ∃ x y, outs = [x, y] := two_of_len ho.len
      have hF0 := ho.first (v0, rs0) _ rfl rfl
      simp only at hF0
      rw [← take_zip] at hF0
      obtain rfl := First.one HT2.out hF0
      obtain ⟨r0, hr0⟩ : ∃ r0 : Rp, (⟨sd, md, s2 % 65536, recF ((xs.take k).zip (ts.take k)) s2 / 64000, 0, st2.S, st2.D⟩ : Rp) = r0 := ⟨_, rfl⟩
      have hr00 : r0.fb = 0 := by rw [← hr0]
      rw [hr0] at ho hF0
      obtain ⟨A0, k0, hv0⟩ := (ho.reps (v0, [r0]) (by simp)).shape
      obtain ⟨A1, k1', hv1⟩ := (ho.reps (v1, rs1) (by simp)).shape
      simp only at hv0 hv1
      obtain rfl : v0 = .slice A0 1 k0 := hv0
      subst hv1
      obtain ⟨gg, goff, rfl, hggl, _, hgc⟩ := ho.own.litc (by omega)
      have HB9 := Lib.hid (HB4.out.trans (hb9.mono HB4.out.size))
      have HF29 : Hid (Calls Try.prog 29 #[.int .u32 sd, .int .u32 md, .slice (some pa) k c, .slice (some qa) k d] W9.drew fun e w' => ∃ F fc, e = .returned (.slice F 1 fc) ∧ RepsAt w' W9.heap.size (.slice F 1 fc) [r0] ∧ Below W9.heap.size W9 w') := by
        refine (HFB1.out W9.drew ⟨HB9.out.os, HB9.out.tape, HB9.out.output, HB9.out.size, HB9.out.block⟩).mono ?_
        rintro v w' ⟨hb, F, fc, rs, rfl, hrep, hfirst, _⟩
        rw [← take_zip] at hfirst
        obtain rfl := First.one HT2.out hfirst
        rw [hr0] at hrep ⊢
        exact ⟨F, fc, rfl, hrep, ⟨hb.os, hb.tape, hb.output, hb.size, hb.block⟩⟩
      have HGC : Hid (∀ W, Below W9.heap.size W9 W → W.cell? ⟨gg, goff + 0, none⟩ = some (.slice A0 1 k0) ∧ W.cell? ⟨gg, goff + 1, none⟩ = some (.slice A1 rs1.length k1')) := fun W hW =>
        ⟨(hW.cell (p := ⟨gg, goff + 0, none⟩) hggl).trans (hgc 0 _ rfl), (hW.cell (p := ⟨gg, goff + 1, none⟩) hggl).trans (hgc 1 _ rfl)⟩
      have HR0 := Lib.hid (ho.reps (.slice A0 1 k0, [r0]) (by simp))
      have HR1 := Lib.hid (ho.reps (.slice A1 rs1.length k1', rs1) (by simp))
      have HNB : Hid (Numb 1 rs1) := ho.numb (.slice A0 1 k0, [r0]) (.slice A1 rs1.length k1', rs1) rfl rfl
      have hsm1 : rs1.length ≤ 200 := ho.sml (.slice A1 rs1.length k1', rs1) (by simp)
      have HR00 := Lib.hid hr00
      have hq0 := (HGC.out W9 (Below.refl _ _)).1
      simp only [Nat.add_zero] at hq0
      clear ho hF0 hr0 hr00 hgc hb9 HC1 HC2
      go_upto_region 13 with fail
      go_region_held3 (fun _ => True) (exact True.intro) (first | (go_at_call 29; (with_reducible refine HF29.out.mono ?_); rintro v10 w10 ⟨F, fc, rfl, hrep10, hb10⟩; have HB10 := Lib.hid hb10; have HR10 := Lib.hid hrep10; clear hb10 hrep10))
      have hq1 := (HGC.out w10 HB10.out).1
      simp only [Nat.add_zero] at hq1
      go_wp2_with fail
      have HALL : Hid (∀ W, Below w10.heap.size w10 W → Below w.heap.size w W) := fun W hW => HB9.out.trans ((HB10.out.trans (hW.mono HB10.out.size)).mono HB9.out.size)
      clear hq0 hq1
      go_loopw [19, 119] (fun nn u wr => ∃ i N : Nat, i ≤ 2 ∧ u = .int .i64 (i : Int) ∧ nn = .int .i64 (N : Int) ∧ N ≤ 300 ∧ Hid ((i = 0 → N = 0) ∧ (i = 1 → N = 1)) ∧ Hid (Below w10.heap.size w10 wr)) (fun _ u _ => 2 - (intOf u).toNat)
      case atStart => exact ⟨0, 0, by omega, rfl, rfl, by omega, ⟨fun _ => rfl, fun h => by omega⟩, Below.refl _ _⟩
      case round =>
        obtain ⟨i, N, hi, rfl, rfl, hN3, hiN, hbw⟩ := hrel
        obtain ⟨V, hV⟩ : ∃ V, V = wr := ⟨_, rfl⟩
        subst hV
        by_cases hlt : i < 2
        · have hi01 : i = 0 ∨ i = 1 := by omega
          have hsel : ∃ Ai L ki rs, V.cell? ⟨gg, goff + i, none⟩ = some (.slice Ai L ki) ∧ Hid (RepsAt W9 W4.heap.size (.slice Ai L ki) rs) ∧ Hid (rs.length = L) ∧ L ≤ 200 ∧ Hid (Numb N rs) ∧ Hid (i = 0 → L = 1) ∧ N ≤ 1 := by
            have hc := HGC.out V (HB10.out.trans (hbw.out.mono HB10.out.size))
            rcases hi01 with rfl | rfl
            · have hN := hiN.out.1 rfl
              subst hN
              refine ⟨A0, 1, k0, [r0], hc.1, HR0.out, rfl, by omega, ?_, fun _ => rfl, by omega⟩
              intro j r hr
              have hj : j = 0 := by
                have := (List.getElem?_eq_some_iff.1 hr).1
                simpa using this
              subst hj
              simp only [List.getElem?_cons_zero, Option.some.injEq] at hr
              subst hr
              rw [HR00.out]
            · have hN := hiN.out.2 rfl
              subst hN
              exact ⟨A1, rs1.length, k1', rs1, hc.2, HR1.out, rfl, hsm1, HNB.out, fun h => by omega, by omega⟩
          obtain ⟨Ai, L, ki, rs, e0, HRS, HLN, hL, HNU, HL1, hN1⟩ := hsel
          clear hi01
          have hi2 : (i : Int) < 2 := by omega
          go_wp2_with fail
          go_loopw [19, 125] (fun nn u wr2 => ∃ j M : Nat, j ≤ L ∧ u = .int .i64 (j : Int) ∧ nn = .int .i64 (M : Int) ∧ M ≤ 300 ∧ Hid (M = N + j) ∧ Hid (Below w10.heap.size w10 wr2)) (fun _ u _ => L - (intOf u).toNat)
          case atStart => exact ⟨0, N, Nat.zero_le _, rfl, rfl, hN3, rfl, hbw.out⟩
          case round =>
            obtain ⟨j, M, hj, rfl, rfl, hM3, hMj, hbw2⟩ := hrel
            by_cases hlt2 : j < L
            · obtain ⟨r, hr⟩ : ∃ r, rs[j]? = some r := ⟨_, List.getElem?_eq_getElem (by rw [HLN.out]; exact hlt2)⟩
              obtain ⟨g, off, Aa, ka, Ab, kb, rfl, y0, y1, y2, y3, y4, y5, y6, y7⟩ := HRS.out.at_ (HB10.out.trans (hbw2.out.mono HB10.out.size)) hr
              have hfb := HNU.out j r hr
              obtain ⟨fb, hfbb⟩ : ∃ fb, r.fb = fb := ⟨_, rfl⟩
              rw [hfbb] at y5 hfb
              have htm : Int.tmod (M : Int) 256 = (fb : Int) := by
                rw [Int.tmod_eq_emod_of_nonneg (by omega)]
                have := hMj.out
                omega
              have hji : (j : Int) < (L : Int) := by omega
              have HBN : Hid (Below w10.heap.size w10 (wr.alloc (.cells #[.int .u32 r.sd, .int .u32 r.md, .int .i64 (r.bs : Int), .int .i64 (r.S.length : Int), .int .u32 r.ref, .int .i64 (fb : Int), .slice Aa r.S.length ka, .slice Ab r.D.length kb] 74))) := hbw2.out.alloc hbw2.out.size _
              have HM1 : Hid (M + 1 = N + (j + 1)) := by have := hMj.out; show M + 1 = _; omega
              have hML : M + 1 ≤ 300 := by have := hMj.out; omega
              clear hr hfb hfbb
              go_wp2_with fail
              exact ⟨⟨j + 1, M + 1, by omega, by go_num, by go_num, hML, HM1.out, HBN.out⟩, by simp [intOf]; omega⟩
            · obtain rfl : j = L := by omega
              have HI1 : Hid ((i + 1 = 0 → M = 0) ∧ (i + 1 = 1 → M = 1)) := ⟨fun h => by omega, fun h => by
                have h0 : i = 0 := by omega
                have h1 := HL1.out h0
                have h2 := hiN.out.1 h0
                have h3 := hMj.out
                omega⟩
              go_wp2_with fail
              exact ⟨⟨i + 1, M, by omega, by go_num, rfl, hM3, HI1.out, hbw2.out⟩, by simp [intOf]; omega⟩
        · have hq2 := (HGC.out V (HB10.out.trans (hbw.out.mono HB10.out.size))).1
          simp only [Nat.add_zero] at hq2
          go_wp2_with fail
          go_loopw [142] (fun u wr2 => ∃ j : Nat, j ≤ 1 ∧ u = .int .i64 (j : Int) ∧ Hid (Below w10.heap.size w10 wr2)) (fun u _ => 1 - (intOf u).toNat)
          case atStart => exact ⟨0, Nat.zero_le _, rfl, hbw.out⟩
          case round =>
            obtain ⟨j, hj, rfl, hbw2⟩ := hrel
            by_cases hlt2 : j < 1
            · have hr : ([r0] : List Rp)[j]? = some r0 := by
                have h0 : j = 0 := by omega
                subst h0
                rfl
              obtain ⟨g, off, Aa, ka, Ab, kb, rfl, y0, y1, y2, y3, y4, y5, y6, y7⟩ := HR0.out.at_ (HB10.out.trans (hbw2.out.mono HB10.out.size)) hr
              obtain ⟨gF, oF, Ac, kc, Ad, kd, rfl, x0, x1, x2, x3, x4, x5, x6, x7⟩ := HR10.out.at_ hbw2.out hr
              have hji : (j : Int) < 1 := by omega
              obtain ⟨sn, hsn⟩ : ∃ x, r0.S.length = x := ⟨_, rfl⟩
              obtain ⟨dn, hdn⟩ : ∃ x, r0.D.length = x := ⟨_, rfl⟩
              obtain ⟨bs0, hbs⟩ : ∃ x, r0.bs = x := ⟨_, rfl⟩
              rw [hsn] at y3 y6 x3 x6
              rw [hdn] at y7 x7
              rw [hbs] at y2 x2
              obtain ⟨W5, hW5⟩ : ∃ W5, wr.alloc (.cells #[.int .u32 r0.sd, .int .u32 r0.md, .int .i64 (bs0 : Int), .int .i64 (sn : Int), .int .u32 r0.ref, .int .i64 (r0.fb : Int), .slice Aa sn ka, .slice Ab dn kb] 74) = W5 := ⟨_, rfl⟩
              obtain ⟨rb, hrb⟩ : ∃ rb, wr.heap.size = rb := ⟨_, rfl⟩
              have hb5 : Below w10.heap.size w10 W5 := by rw [← hW5]; exact hbw2.out.alloc hbw2.out.size _
              have hk5 : Blk W5 rb 74 #[.int .u32 r0.sd, .int .u32 r0.md, .int .i64 (bs0 : Int), .int .i64 (sn : Int), .int .u32 r0.ref, .int .i64 (r0.fb : Int), .slice Aa sn ka, .slice Ab dn kb] := by
                rw [← hW5, ← hrb]
                exact Blk.new wr 74 _
              obtain ⟨gF', oF', Ac', kc', Ad', kd', heq, t0, t1, t2, t3, t4, t5, t6, t7⟩ := HR10.out.at_ hb5 hr
              injection heq with heq
              injection heq with he1 he2 _
              subst he1 he2
              rw [hbs] at t2
              rw [hsn] at t3 t6
              rw [hdn] at t7
              have z2 := hk5.cell 2
              have z3 := hk5.cell 3
              have z7 := hk5.cell 7
              simp at z2 z3 z7
              have HB5 := Lib.hid hb5
              have HW5 := Lib.hid hW5
              have HRBB := Lib.hid hrb
              clear hb5 hk5 hW5 hrb hr hsn hdn hbs x0 x1 x2 x3 x4 x5 x6 x7
              go_upto_region 31 with fail
              rw [HW5.out, HRBB.out]
              clear y0 y1 y2 y3 y4 y5 y6 y7
              go_quiet (fail)
              go_wp2_with fail
              exact ⟨⟨j + 1, by omega, by go_num, below_drewN HB5.out _⟩, by simp [intOf]; omega⟩
            · go_wp2_with fail
              refine (works_true _).mono ?_
              rintro e11 w11 ⟨rfl, hb11⟩
              have HB11 := Lib.hid hb11
              clear hb11
              go_wp2_with fail
              go_ret
              exact ⟨rfl, HALL.out _ (hbw2.out.trans (HB11.out.mono hbw2.out.size))⟩
end Go.Proofs.Ytlkmmkphpiamcaa
