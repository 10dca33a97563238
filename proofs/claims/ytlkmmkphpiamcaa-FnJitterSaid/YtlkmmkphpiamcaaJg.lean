/-
  impl.Jitter: the closure, the call. Conditions: at most 100 calls. By an AI agent.
-/
import Derived.Test.YtlkmmkphpiamcaaJf
namespace Go.Proofs.Ytlkmmkphpiamcaa
open Go.RowKit

/-- What stands when so many calls have been made. -/
structure JI (bo jb q mp mn k B : Nat) (ss : List Stp) (w0 w : World) (ns : List Nd) (v : Value) : Prop where
  out : Blk w bo 47 #[v]
  own : w.ownsRow B 59 3 v k (anL (jOut mn (ss.take k)))
  buf : JQ B w jb q mp (jSt mn (ss.take k)) ns
  touch : Touch (fun b => b = bo ∨ b = jb ∨ b = q) w0 w
def JInv (bo jb q mp mn k B : Nat) (ss : List Stp) (w0 w : World) : Prop := ∃ ns v, JI bo jb q mp mn k B ss w0 w ns v

section
variable {bo jb q mp mn k B : Nat} {ss : List Stp} {w0 w w' w2 : World} {ns ns' : List Nd} {v : Value}
theorem own_jt {base : Nat} {e : TypeId} {size n : Nat} {xs : List Value} (h : w.ownsRow base e size v n xs) (ht : Touch (JT B jb q w) w w') (h1 : e ≠ 132) (h2 : jb < base) (h3 : q < base) : w'.ownsRow base e size v n xs := by
  obtain ⟨a1, a2⟩ := h
  refine ⟨a1, ?_⟩
  rcases a2 with a2 | ⟨b, cap, cur, hv, hb, hh, r⟩
  · exact .inl a2
  · refine .inr ⟨b, cap, cur, hv, hb, ?_, r⟩
    have : Blk w b e cur := hh
    exact this.jt ht h1 (by omega) (by omega)
/-- Behind the call: the row and the box of the answers are as they were. -/
structure JM (bo jb q mp mn k B : Nat) (ss : List Stp) (s : Stp) (w0 w : World) (v : Value) : Prop where
  out : Blk w bo 47 #[v]
  own : w.ownsRow B 59 3 v k (anL (jOut mn (ss.take k)))
  buf : ∃ ns, JQ B w jb q mp (jNext s (jSt mn (ss.take k))) ns
  touch : Touch (fun b => b = bo ∨ b = jb ∨ b = q) w0 w
theorem JI.call {s : Stp} (h : JI bo jb q mp mn k B ss w0 w ns v) (ht : Touch (JT B jb q w) w w') (hq : ∃ ns, JQ B w' jb q mp (jNext s (jSt mn (ss.take k))) ns) (h1 : jb < B) (h2 : q < B) (h3 : bo ≠ jb) (h4 : bo ≠ q) (hB : w0.heap.size ≤ B) : JM bo jb q mp mn k B ss s w0 w' v :=
  ⟨h.out.jt ht (by decide) h3 h4, own_jt h.own ht (by decide) h1 h2, hq, h.touch.trans ht fun i hi hs => by
    rcases hs with rfl | rfl | ⟨hb, _⟩
    · exact .inr (.inl rfl)
    · exact .inr (.inr rfl)
    · omega⟩
theorem JI.idle (h : JI bo jb q mp mn k B ss w0 w ns v) (ht : Touch Nowhere w w') : JI bo jb q mp mn k B ss w0 w' ns v :=
  ⟨h.out.touch ht (fun h => h), own_none h.own ht, h.buf.idle ht, h.touch.trans ht (fun _ _ h => False.elim h)⟩
theorem JM.after {s : Stp} {o : Obj} (h : JM bo jb q mp mn k B ss s w0 w v) (hgrow : (w.alloc o).grownBy w2 v.ownBlock) (hob : bo < B) : w2.cell? ⟨bo, 0, none⟩ = some v ∧ w2.frozen? ⟨bo, 0, none⟩ = false := by
  have ho2 := (h.out.alloc o).grown hgrow (fun e => by have := (h.own.lt bo e.symm).1; omega)
  exact ⟨ho2.cell 0, ho2.free 0⟩
/-- The end of a round. -/
theorem JM.done {s : Stp} {x : An} {gg cap : Nat} {o : Obj} (h : JM bo jb q mp mn k B ss s w0 w v) (hs : ss[k]? = some s) (hx : x = jAns s (jSt mn (ss.take k)))
    (hown : w2.ownsRow B 59 3 (.slice (some ⟨gg, 0, none⟩) (k + 1) cap) (k + 1) (anL (jOut mn (ss.take k)) ++ [.bool x.ok, .int .u16 x.seq, .int .i64 x.n])) (hgrow : (w.alloc o).grownBy w2 v.ownBlock)
    (hob : bo < B) (hB : w0.heap.size ≤ B) :
    JInv bo jb q mp mn (k + 1) B ss w0 (w2.setCell ⟨bo, 0, none⟩ (.slice (some ⟨gg, 0, none⟩) (k + 1) cap)) := by
  obtain ⟨ns', hj⟩ := h.buf
  have hlt := h.own.lt
  have ho2 := (h.out.alloc o).grown hgrow (fun e => by have := (hlt bo e.symm).1; omega)
  have hne : ∀ b t cs, Blk w b t cs → t ≠ 59 → Blk w2 b t cs := fun b t cs hb ht => (hb.alloc o).grown hgrow (fun e => own_ne h.own hb ht e.symm)
  have hbo : ∀ b t cs, Blk w b t cs → t ≠ 59 → t ≠ 47 → Blk (w2.setCell ⟨bo, 0, none⟩ (.slice (some ⟨gg, 0, none⟩) (k + 1) cap)) b t cs := fun b t cs hb h1 h2 =>
    (hne b t cs hb h1).far (p := ⟨bo, 0, none⟩) (hb.unlike h.out h2) _
  refine ⟨ns', _, by simpa using ho2.put 0 (.slice (some ⟨gg, 0, none⟩) (k + 1) cap), ?_, ?_, ?_⟩
  · have := own_far hown (p := ⟨bo, 0, none⟩) hob (.slice (some ⟨gg, 0, none⟩) (k + 1) cap)
    rw [jOut_take hs, anL_snoc, ← hx]
    exact this
  · rw [jSt_take hs]
    obtain ⟨⟨⟨last, s0, s1, s2, hx⟩, c, hm⟩, hq, hi⟩ := hj
    refine ⟨⟨⟨last, s0, s1, s2, hbo _ _ _ hx (by decide) (by decide)⟩, c, ?_⟩, ⟨hbo _ _ _ hq.head (by decide) (by decide), hq.seg.keep (fun n hn cs hc => hbo _ _ _ hc (by decide) (by decide)) (fun n hn cs hc => hbo _ _ _ hc (by decide) (by decide)), hq.lows, hq.apart⟩, hi⟩
    refine map_far ?_ ho2
    have hmlt : mp < w.heap.size := by
      rcases Nat.lt_or_ge mp w.heap.size with h1 | h1
      · exact h1
      · rw [Array.getElem?_eq_none h1] at hm
        cases hm
    have hmo : some mp ≠ v.ownBlock := fun e => by
      rcases h.own.2 with ⟨rfl, _⟩ | ⟨g, cap', cur, rfl, _, hg, _⟩
      · simp [Value.ownBlock] at e
      · simp only [Value.ownBlock, Option.some.injEq] at e
        subst e
        rw [hg] at hm
        cases hm
    exact (hgrow.block mp (by simp; omega) hmo).trans ((Below.heap_alloc w o mp hmlt).trans hm)
  · exact ((h.touch.alloc o).grown hgrow fun b hb hl => by have := (hlt b hb).1; omega).setCell (p := ⟨bo, 0, none⟩) (fun _ => .inl rfl) _
end

set_option maxRecDepth 1000000 in
set_option maxHeartbeats 4000000 in
theorem jitter_closure (bl bo bb jb q mp mn n c : Nat) (A : Option Addr) (ss : List Stp) (w : World)
    (hbl : Blk w bl 42 #[.slice A n c]) (hbo : Blk w bo 47 #[.slice none 0 0]) (hbb : Blk w bb 108 #[.pointer (some ⟨jb, 0, none⟩)]) (hj : JQ w.heap.size w jb q mp ⟨mn, 0, false, []⟩ [])
    (hr : StepsAt w w.heap.size A n ss) (hA : 0 < n → ∀ a, A = some a → a.block ≠ bo ∧ a.block ≠ jb ∧ a.block ≠ q) (hn : n ≤ 100) (hss : ∀ s ∈ ss, s.what ≤ 1 ∧ s.seq ≤ 65535 ∧ s.time ≤ 4294967295) :
    Calls Try.prog 54 #[.pointer (some ⟨bl, 0, none⟩), .pointer (some ⟨bo, 0, none⟩), .pointer (some ⟨bb, 0, none⟩)] w
      fun e w' => e = .returned (.tuple #[]) ∧ JInv bo jb q mp mn n w.heap.size ss w w' := by
  obtain ⟨i0, hi0, hz0, hz1, hz2⟩ := info_parts info_an
  have cl : w.cell? ⟨bl, 0, none⟩ = some (.slice A n c) := hbl.cell 0
  have lo := hbo.lt
  have lb := hbb.lt
  obtain ⟨lj, lq⟩ := hj.lts
  obtain ⟨_, _, _, _, hjb⟩ := hj.jb.box
  have doj : bo ≠ jb := hbo.unlike hjb (by decide)
  have doq : bo ≠ q := hbo.unlike hj.qu.head (by decide)
  have dbo : bb ≠ bo := hbb.unlike hbo (by decide)
  have dbj : bb ≠ jb := hbb.unlike hjb (by decide)
  have dbq : bb ≠ q := hbb.unlike hj.qu.head (by decide)
  have HI0 := Lib.hid (show JInv bo jb q mp mn 0 w.heap.size ss w w from ⟨[], .slice none 0 0, hbo, World.ownsRow_nil _ _ _ _, hj, Touch.refl _ _⟩)
  have HBB := Lib.hid hbb
  have HR := Lib.hid hr
  have HSS := Lib.hid hss
  have HA := Lib.hid hA
  have HLEN := Lib.hid hr.1
  clear hbl hbo hbb hj hr hss hA hjb
  go_enter Try.func54, Try.ntmps54
  go_wp2_with fail
  clear cl
  go_loopw [7] (fun i wr => ∃ k : Nat, k ≤ n ∧ i = .int .i64 k ∧ Hid (JInv bo jb q mp mn k w.heap.size ss w wr)) (fun i _ => n - (intOf i).toNat)
  case atStart => exact ⟨0, by omega, rfl, HI0⟩
  case round =>
    obtain ⟨k, hk, rfl, hinv⟩ := hrel
    by_cases hlt : k < n
    · obtain ⟨ns, v, hji⟩ := hinv.out
      have hkl : k < ss.length := by rw [HLEN.out]; exact hlt
      obtain ⟨s, hs⟩ : ∃ s, ss[k]? = some s := ⟨_, List.getElem?_eq_getElem hkl⟩
      obtain ⟨ga, off, hA, hab, hcell⟩ := HR.out.2 (by omega)
      have hga := HA.out (by omega) _ hA
      subst hA
      obtain ⟨s1, s2, s3⟩ := HSS.out s (List.mem_of_getElem? hs)
      have hst : ∀ o, wr.cell? ⟨ga, o, none⟩ = w.cell? ⟨ga, o, none⟩ := fun o => hji.touch.cell (p := ⟨ga, o, none⟩) hab (fun h => by rcases h with h | h | h; exact hga.1 h; exact hga.2.1 h; exact hga.2.2 h)
      obtain ⟨y0, y1, y2⟩ := hcell k s hs
      rw [← hst] at y0 y1 y2
      have hwsz := hji.touch.size
      have hgr : ga < wr.heap.size := by omega
      have hkn : (k : Int) < (n : Int) := by omega
      have hnsl : ns.length ≤ 99 := by
        have h1 := (jSt_len mn _ (ss.take k) rfl).1
        rw [← hji.buf.its, List.length_map] at h1
        simp at h1
        omega
      have HBB1 := Lib.hid ((HBB.out.touch hji.touch (fun h => by rcases h with h | h | h; exact dbo h; exact dbj h; exact dbq h)).alloc (.cells #[.int .i64 s.what, .int .u16 s.seq, .int .u32 s.time] 45))
      have HJ1 := Lib.hid (hji.idle ((Touch.refl Nowhere wr).alloc (.cells #[.int .i64 s.what, .int .u16 s.seq, .int .u32 s.time] 45)))
      have HSB : Hid (Blk (wr.alloc (.cells #[.int .i64 s.what, .int .u16 s.seq, .int .u32 s.time] 45)) wr.heap.size 45 #[.int .i64 s.what, .int .u16 s.seq, .int .u32 s.time]) := Blk.new _ _ _
      have HS := Lib.hid hs
      obtain ⟨A1, c1, hv⟩ := own_slice hji.own
      subst hv
      clear hst hcell hs hji hinv hga
      go_upto_region 3 with fail
      generalize hW : wr.alloc (.cells #[.int .i64 s.what, .int .u16 s.seq, .int .u32 s.time] 45) = W at *
      clear hW y0 y1 y2
      generalize wr.heap.size = sb at *
      have co : W.cell? ⟨bo, 0, none⟩ = some (.slice A1 k c1) := HJ1.out.out.cell 0
      have cb : W.cell? ⟨bb, 0, none⟩ = some (.pointer (some ⟨jb, 0, none⟩)) := HBB1.out.cell 0
      have t0 := HSB.out.cell 0
      have t1 := HSB.out.cell 1
      have t2 := HSB.out.cell 2
      simp at t0 t1 t2
      have hBW : w.heap.size ≤ W.heap.size := HJ1.out.touch.size
      obtain ⟨⟨ok, aq, an⟩, ha⟩ : ∃ a, jAns s (jSt mn (ss.take k)) = a := ⟨_, rfl⟩
      have HAN := Lib.hid ha
      have HC55 : Hid (Calls Try.prog 55 #[.pointer (some ⟨jb, 0, none⟩), .agg #[.int .i64 s.what, .int .u16 s.seq, .int .u32 s.time]] W.drew fun e w' => e = .returned (.agg #[.bool ok, .int .u16 (aq : Nat), .int .i64 (an : Nat)]) ∧ Touch (JT w.heap.size jb q W.drew) W.drew w' ∧ ∃ ns, JQ w.heap.size w' jb q mp (jNext s (jSt mn (ss.take k))) ns) := by
        refine (jitter_any w.heap.size jb q mp s (jSt mn (ss.take k)) ns _ (HJ1.out.buf.idle ((Touch.refl Nowhere W).drew)) hnsl hBW s1 s2 s3).mono ?_
        rintro e w' ⟨h1, h2, h3⟩
        rw [ha] at h1
        exact ⟨h1, h2, h3⟩
      clear ha
      go_region_law
        (first
          | (go_simp; go_at_call 55; refine HC55.out.mono ?_; rintro e w3 ⟨rfl, ht3, hj3⟩; have hm3 := (HJ1.out.idle ((Touch.refl Nowhere W).drew)).call ht3 hj3 lj lq doj doq (Nat.le_refl _); have co3 : ∀ o, (w3.alloc o).cell? ⟨bo, 0, none⟩ = some (.slice A1 k c1) := fun o => (hm3.out.alloc o).cell 0; have co3' : w3.cell? ⟨bo, 0, none⟩ = some (.slice A1 k c1) := hm3.out.cell 0; have hB3 : w.heap.size ≤ w3.heap.size := hm3.touch.size; have HM3 := Lib.hid hm3; clear ht3 hj3 hm3)
          | (refine step_append_lies _ rfl (.tmp 11) (.tmp 15) 47 rfl w.heap.size 59 i0 _ 3 16 Try.underlying47 hi0 hz0 hz1 hz2 rfl (by decide) (.slice A1 k c1) k _ rfl (HM3.out.own.alloc _) ⟨w3.heap.size, 0, none⟩ 1 1 [.bool ok, .int .u16 (aq : Nat), .int .i64 (an : Nat)] rfl rfl (World.news_of_block (cs := #[.bool ok, .int .u16 (aq : Nat), .int .i64 (an : Nat)]) (t := 59) (fr := (0, 0)) (heap_alloc_new w3 _)) (by simp [Value.oneCell']) (by omega) (by simp only [maxLen]; omega) (by omega) (by simp; omega) (w3.heap.size + 1) (by simp) ?_; intro gg cap w7 hown7 hgrow7 hat7 hlt7; obtain ⟨cb7, fb7⟩ := HM3.out.after hgrow7 lo; have HO7 := Lib.hid hown7; have HG7 := Lib.hid hgrow7; clear hat7 hown7 hgrow7))
      all_goals
        have HD := Lib.hid (HM3.out.done (x := ⟨ok, aq, an⟩) HS.out HAN.out.symm HO7.out HG7.out lo (Nat.le_refl _))
        go_wp2_with fail
        exact ⟨⟨k + 1, by omega, by go_num, HD.out⟩, by simp [intOf]; omega⟩
    · have hkn : k = n := by omega
      have HI := Lib.hid hinv.out
      have HKN := Lib.hid hkn
      clear hinv hkn
      go_wp2_with fail
      go_end0
      exact ⟨rfl, HKN.out ▸ HI.out⟩
end Go.Proofs.Ytlkmmkphpiamcaa
