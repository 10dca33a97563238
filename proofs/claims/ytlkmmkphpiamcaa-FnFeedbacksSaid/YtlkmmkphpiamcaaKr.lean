/-
  Feedback: getRTCP. Condition: the feedback lies in its blocks. By an AI agent.
-/
import Derived.Test.YtlkmmkphpiamcaaKp
import Derived.Test.YtlkmmkphpiamcaaKs
namespace Go.Proofs.Ytlkmmkphpiamcaa
open Go.RowKit

/-- One end alone. -/
def Only (A : Act) (W : World) : Exit → Act → World → Prop := fun e a w => match e with
  | .normal => a = A ∧ w = W
  | _ => False
theorem wp_only {P : Program} {c : Code} {Q : Exit → Act → World → Prop} {a : Act} {w : World} (A : Act) (W : World) (h : c.wp P (Only A W) a w) (hq : Q .normal A W) : c.wp P Q a w :=
  Code.wp_mono (fun e a w h => by
    cases e <;> first | (obtain ⟨rfl, rfl⟩ := h; exact hq) | exact h.elim) h

theorem info_ptrK : (Try.prog.info? 171).map (fun i => (i.zero, i.size, i.bytes)) = some (some (.pointer none), 1, 8) := by kernel_rfl
def nils (m : Nat) : Array Value := (List.replicate m (Value.pointer none)).toArray
theorem make_ptrs {P : Program} {t e : TypeId} {i : TypeInfo} (ht : P.underlying t = some (.slice e)) (hi : P.info? e = some i) (hz : i.zero = some (.pointer none)) (hs : i.size = 1) (hb : i.bytes = 8)
    (m : Nat) (hm : m ≤ 4096) (w : World) :
    (Instr.makeSlice t (.int .i64 (m : Int)) (.int .i64 (m : Int))).run P w = .ok (.slice (some ⟨w.heap.size, 0, none⟩) m m) (w.alloc (.cells (nils m) e)) := by
  have hbm : (i.bytes : Int) * (m : Int) ≤ 281474976710656 := by rw [hb]; omega
  have h := run_make (P := P) w t e i (.pointer none) ht hi hz .i64 .i64 m m (by omega) (by omega) hbm (by omega)
  rw [h, hs]
  simp only [Int.toNat_natCast, Nat.mul_one]
  have : madeCells (Value.pointer none).cells m = nils m := by
    apply Array.ext'
    have := toList_madeCells_one (.pointer none) m
    simpa [nils, Value.cells] using this
  rw [this]

theorem round_less {i m : Nat} (h : i < m) : m - (intOf (.int .i64 ((i + 1 : Nat) : Int))).toNat < m - (intOf (.int .i64 ((i : Nat) : Int))).toNat := by
  simp only [intOf, Int.toNat_natCast]
  omega
/-- Places of times. -/
def ptrs (g off m i : Nat) : Array Value := ((List.range m).map fun j => if j < i then Value.pointer (some ⟨g, off + j * 2, none⟩) else .pointer none).toArray
theorem ptrs_zero (g off m : Nat) : ptrs g off m 0 = nils m := by
  apply Array.ext'
  simp only [ptrs, nils]
  apply List.ext_getElem? 
  intro j
  simp only [List.getElem?_map, List.getElem?_replicate]
  by_cases h : j < m <;> simp [h]
theorem ptrs_get (g off m i : Nat) (h : i < m) : (ptrs g off m i)[i]? = some (.pointer none) := by
  simp [ptrs, h]
theorem ptrs_succ (g off m i : Nat) (_h : i < m) : (ptrs g off m i).setIfInBounds i (.pointer (some ⟨g, off + i * 2, none⟩)) = ptrs g off m (i + 1) := by
  apply Array.ext
  · simp [ptrs]
  · intro j h1 h2
    have hj : j < m := by simpa [ptrs] using h2
    rw [Array.getElem_setIfInBounds (by simpa [ptrs] using hj)]
    by_cases he : i = j
    · subst he
      simp [ptrs]
    · rw [if_neg he]
      simp only [ptrs, List.getElem_toArray, List.getElem_map, List.getElem_range]
      by_cases h3 : j < i
      · rw [if_pos h3, if_pos (by omega)]
      · rw [if_neg h3, if_neg (by omega)]

/-- One end, over what an append has made. -/
def Some3 (F : Option Addr → Nat → World → Prop) (A : Option Addr → Nat → Act) (W : Option Addr → Nat → World → World) : Exit → Act → World → Prop := fun e a w => match e with
  | .normal => ∃ A2 c2 w2, F A2 c2 w2 ∧ a = A A2 c2 ∧ w = W A2 c2 w2
  | _ => False
theorem wp_some3 {P : Program} {c : Code} {Q : Exit → Act → World → Prop} {a : Act} {w : World} (F : Option Addr → Nat → World → Prop) (A : Option Addr → Nat → Act) (W : Option Addr → Nat → World → World) (h : c.wp P (Some3 F A W) a w)
    (hq : ∀ A2 c2 w2, F A2 c2 w2 → Q .normal (A A2 c2) (W A2 c2 w2)) : c.wp P Q a w :=
  Code.wp_mono (fun e a w h => by
    cases e <;> first | (obtain ⟨A2, c2, w2, hf, rfl, rfl⟩ := h; exact hq A2 c2 w2 hf) | exact h.elim) h
theorem ChsAt.one {w : World} {base : Nat} {v : Value} : ∀ {cs : List Value} {ps : List (List Nat)}, ChsAt w base v cs ps → ∀ u ∈ cs, u.oneCell' = true
  | [], _, _ => fun _ h => nomatch h
  | c :: cs, p :: ps, h => fun u hu => by
    rcases List.mem_cons.1 hu with rfl | hu
    · exact h.1.one
    · exact ChsAt.one h.2 u hu
  | _ :: _, [], h => h.elim

/-- The length of a slice in a cell. -/
def sliceLen (w : World) (a : Addr) : Nat := match w.cell? a with
  | some (.slice _ n _) => n
  | _ => 0
theorem sliceLen_of {w : World} {a : Addr} {A : Option Addr} {n c : Nat} (h : w.cell? a = some (.slice A n c)) : sliceLen w a = n := by
  unfold sliceLen
  rw [h]

theorem tcells_get : ∀ (T : List (Nat × Int)) (j : Nat) (x : Nat × Int), T[j]? = some x → (tcells T)[j * 2 + 1]? = some (.int .i64 x.2)
  | [], _, _, h => by simp at h
  | y :: T, 0, x, h => by
    simp only [List.getElem?_cons_zero, Option.some.injEq] at h
    subst h
    simp [tcells]
  | y :: T, j + 1, x, h => by
    have h1 := tcells_get T j x (by simpa using h)
    have h2 : tcells (y :: T) = .int .u16 (y.1 : Int) :: .int .i64 y.2 :: tcells T := by simp [tcells]
    rw [h2, show (j + 1) * 2 + 1 = j * 2 + 1 + 1 + 1 by omega]
    simpa using h1
/-- Times in a row of their own. -/
def TimesAt (w : World) (g off : Nat) (D : List Int) : Prop := 0 < D.length → ∃ cur, w.heap[g]? = some (.cells cur 173 (0, 0)) ∧ ∀ (j : Nat) (t : Int), D[j]? = some t → cur[off + j * 2 + 1]? = some (.int .i64 t)
theorem TimesAt.of {w : World} {base n : Nat} {g off c : Nat} {v : Value} {T : List (Nat × Int)} (h : OwnsAt w base 173 2 v T.length (tcells T)) (hv : 0 < T.length → v = .slice (some ⟨g, off, none⟩) n c) : TimesAt w g off (T.map Prod.snd) := by
  intro hl
  rw [List.length_map] at hl
  obtain ⟨g', off', c', cur, hv', _, hg, _, _, _, htk⟩ := h.place hl
  rw [hv hl] at hv'
  injection hv' with h1 _ _
  injection h1 with h1
  injection h1 with h1 h2 _
  subst h1 h2
  refine ⟨cur, hg, fun j t hj => ?_⟩
  rw [List.getElem?_map] at hj
  cases hx : T[j]? with
  | none => rw [hx] at hj; cases hj
  | some x =>
    rw [hx] at hj
    injection hj with hj
    have h3 := tcells_get T j x hx
    rw [← htk, List.getElem?_take] at h3
    split at h3
    · rw [List.getElem?_drop] at h3
      rw [← hj]
      have h4 : cur[off + (j * 2 + 1)]? = some (.int .i64 x.2) := by simpa using h3
      rwa [show off + j * 2 + 1 = off + (j * 2 + 1) by omega]
    · cases h3
/-- A report lies in block rt: symbols S, times D. -/
def RepAt (w : World) (rt : Nat) (S : List Nat) (D : List Int) (sd md bs cnt ref fb : Int) : Prop :=
  ∃ (r : RP) (cl : List Value) (ps : List (List Nat)) (base : Nat) (v : Value) (A : Option Addr) (c z g off : Nat), Blk w rt 169 r.cells ∧ (r.sd = sd ∧ r.md = md ∧ r.base = bs ∧ r.cnt = cnt ∧ r.ref = ref ∧ r.fb = fb) ∧
    (r.chs = .slice A cl.length c ∧ OwnsAt w base 187 1 r.chs cl.length cl ∧ ChsAt w base v cl ps ∧ ps.flatten = S ∧ cl.length ≤ 3000) ∧ r.dls = .slice (some ⟨z, 0, none⟩) D.length D.length ∧ Blk w z 171 (ptrs g off D.length D.length) ∧ TimesAt w g off D

set_option maxRecDepth 1000000 in
set_option maxHeartbeats 4000000 in
theorem get_fb (base k n : Nat) (f : FB) (S : List Nat) (D : List Int) (r : RP) (w : World) (hF : FbAt w base k f S D n) (hR : Blk w f.rt 169 r.cells) (hrc : r.chs = .slice none 0 0) (hlow : f.rt < base) (hS : S.length < 3000) (hD : D.length ≤ 3000) (hlen : 0 ≤ f.len ∧ f.len ≤ 6000) (href : 0 ≤ f.ref ∧ f.ref < 16777216) :
    Calls Try.prog 86 #[.pointer (some ⟨k, 0, none⟩)] w fun v w' => v = .returned (.pointer (some ⟨f.rt, 0, none⟩)) ∧ RepAt w' f.rt S D r.sd r.md (f.base : Int) (f.cnt : Int) f.ref r.fb ∧ Touch (fun b => b = f.rt ∨ base ≤ b) w w' := by
  obtain ⟨i0, hi0, hz0, hz1, hz2⟩ := info_parts info_chunkK
  have c0 := hF.blk.cell 0
  have c1 := hF.blk.cell 1
  have c2 := hF.blk.cell 2
  have c5 := hF.blk.cell 5
  simp [FB.cells] at c0 c1 c2 c5
  have r6 := hR.cell 6
  have r7 := hR.cell 7
  have r8 := hR.cell 8
  have f6 := hR.free 6
  have f7 := hR.free 7
  have f8 := hR.free 8
  simp [RP.cells] at r6 r7 r8
  obtain ⟨rt, hrt⟩ : ∃ rt, f.rt = rt := ⟨_, rfl⟩
  rw [hrt] at c0 r6 r7 r8 f6 f7 f8
  have hrk : rt ≠ k := by
    rw [← hrt]
    exact hR.unlike hF.blk (by decide)
  have hcv : IntKind.u32.wrap f.ref = f.ref := by rw [IntKind.wrap_u32]; omega
  have HF := Lib.hid hF
  have HR := Lib.hid hR
  have HLN := Lib.hid hlen
  clear hlen
  clear hF hR
  go_enter Try.func86, Try.ntmps86
  go_upto_region 1 with fail
  apply wp_only
  · go_region_law fail
    all_goals exact ⟨rfl, rfl⟩
  go_upto_region 2 with fail
  apply wp_only
  · go_region_law fail
    all_goals exact ⟨rfl, rfl⟩
  go_upto_region 3 with fail
  apply wp_only
  · go_region_law fail
    all_goals exact ⟨rfl, rfl⟩
  have hR0 : Blk w rt 169 r.cells := by rw [← hrt]; exact HR.out
  obtain ⟨W3, hW3⟩ : ∃ W3, (((w.setCell ⟨rt, 7, none⟩ (.int .u16 (f.cnt : Int))).setCell ⟨rt, 8, none⟩ (.int .u32 f.ref)).setCell ⟨rt, 6, none⟩ (.int .u16 (f.base : Int))).drew.drew.drew = W3 := ⟨_, rfl⟩
  have hR3 : Blk W3 rt 169 { r with cnt := f.cnt, ref := f.ref, base := f.base }.cells := by
    rw [← hW3]
    have h := ((hR0.put 7 (.int .u16 (f.cnt : Int))).put 8 (.int .u32 f.ref)).put 6 (.int .u16 (f.base : Int))
    have h2 : Blk (((w.setCell ⟨rt, 7, none⟩ (.int .u16 (f.cnt : Int))).setCell ⟨rt, 8, none⟩ (.int .u32 f.ref)).setCell ⟨rt, 6, none⟩ (.int .u16 (f.base : Int))) rt 169 { r with cnt := f.cnt, ref := f.ref, base := f.base }.cells := by simpa [RP.cells] using h
    exact h2
  have hT3 : Touch (· = rt) w W3 := by
    rw [← hW3]
    exact ((((Touch.refl (· = rt) w).setCell (p := ⟨rt, 7, none⟩) (fun _ => rfl) _).setCell (p := ⟨rt, 8, none⟩) (fun _ => rfl) _).setCell (p := ⟨rt, 6, none⟩) (fun _ => rfl) _).drew.drew.drew
  have hF3 : FbAt W3 base k f S D n := HF.out.away hT3 (fun h => hrk h.symm) fun q t cs hq hz => by
    subst hz
    have := kindOf hq hR0
    subst this
    decide
  rw [hW3]
  have F3 := Lib.hid hF3
  have R3 := Lib.hid hR3
  have T3 := Lib.hid hT3
  have HW3 := Lib.hid hW3
  have HRT := Lib.hid hrt
  have HLOW := Lib.hid (show rt < base by rw [← hrt]; exact hlow)
  clear hR0 hW3 hR3 hT3 hF3 f6 f7 f8 r6 r7 r8 c0 c1 c2 c5 hcv hrt hlow
  go_wp2_with fail
  go_loopw [] (fun wr => ∃ (n' : Nat) (f' : FB) (A : Option Addr) (c : Nat), wr.cell? ⟨k, 9, none⟩ = some (.slice A n' c) ∧ Hid (FbAt wr base k f' S D n') ∧ Hid (f'.v = .slice A n' c ∧ f'.rt = rt ∧ f'.len = f.len ∧ Touch (fun b => base ≤ b) W3 wr)) (fun wr => sliceLen wr ⟨k, 9, none⟩)
  case atStart =>
    obtain ⟨ds, cl, ps, T, hc, hn, _⟩ := F3.out.core
    obtain ⟨A, c, hv, _, _⟩ := hc.own.shape
    rw [hn] at hv
    have h9 := F3.out.blk.cell 9
    simp [FB.cells, hv] at h9
    exact ⟨n, f, A, c, h9, F3.out, hv, HRT.out, rfl, Touch.refl _ _⟩
  case round =>
    obtain ⟨n', f', A0, c0, e9, HA, HB⟩ := hrel
    by_cases hlt : 0 < n'
    · have hlen' := HA.out.len
      obtain ⟨ds, cl, ps, T, hcore, hr1, hr2, hr3, hr4, hr5⟩ := (HA.out.drewN 1).core
      obtain ⟨A, cc, hchs, _, _⟩ := hcore.chs.shape
      have e10 := HA.out.blk.cell 10
      simp [FB.cells, hchs] at e10
      have hb1 : cl.length + 1 ≤ maxLen := by simp only [maxLen]; omega
      have hb2 : (cl.length + 1) * 16 ≤ 140737488355328 := by omega
      have HENC := Lib.hid (encode_any k ds.length base f' ds wr.drew (HA.out.drewN 1).blk hcore.own (by omega) (by omega) hr5 (by have := HA.out.lo; have := HA.out.blk.lt; simp; omega))
      have HCO := Lib.hid hcore
      have HRR := Lib.hid (And.intro hr1 (And.intro hr2 (And.intro hr3 hr4)))
      have HCH := Lib.hid hchs
      have hkb := HA.out.lo
      clear hcore hr1 hr2 hr3 hr4 hr5 hchs
      go_upto_region 5 with fail
      go_region_law (first
        | (go_simp; go_at_call 104; refine HENC.out.mono ?_; rintro v w1 ⟨c, a, b, v', hl', hd', rfl, henc⟩; obtain ⟨ty, q, rfl⟩ := henc.form; have d10 := henc.blk.cell 10; simp [FB.cells, HCH.out] at d10; have d10a : (w1.alloc (.cells #[.iface ty (.pointer (some ⟨q, 0, none⟩))] 187)).cell? ⟨k, 10, none⟩ = some (.slice A cl.length cc) := (((henc.blk.alloc _).cell 10).trans (by simp [FB.cells, HCH.out])); have HEN := Lib.hid henc; clear henc)
        | (refine step_append_au _ rfl (.tmp 48) (.tmp 53) 166 166 rfl base 187 i0 _ 1 16 Try.underlying166 hi0 hz0 hz1 hz2 rfl (by decide) (.slice A cl.length cc) cl.length cl ?_ (by have h := (HCO.out.encode (HA.out.drewN 1).blk HEN.out).chs; rw [HCH.out] at h; exact h.alloc _) (.slice (some ⟨w1.heap.size, 0, none⟩) 1 1) 1 [.iface ty (.pointer (some ⟨q, 0, none⟩))] ?_ (Src.ofSlice _ Try.underlying166 ⟨w1.heap.size, 0, none⟩ 1 1 _ rfl (World.news_of_block (cs := #[.iface ty (.pointer (some ⟨q, 0, none⟩))]) (t := 187) (fr := (0, 0)) (heap_alloc_new w1 _)) HEN.out.one) hb1 hb2 (by have h := HEN.out.touch.size; have h2 := HA.out.blk.lt; simp at h ⊢; omega) ?_; go_simp; go_simp; intro A2 c2 w2 own2 hg2 hgr2 hsp2; have hbk := flush_blk (HA.out.drewN 1) HCO.out HEN.out (by rw [HCH.out]; exact hg2); have y10 := hbk.cell 10; have z10 := hbk.free 10; simp [FB.cells, HCH.out] at y10; have hfl := FbAt.flush (HA.out.drewN 1) HCO.out HRR.out HEN.out (by rw [HCH.out]; exact hg2) own2; have HFL := Lib.hid hfl; clear own2 hg2 hgr2 hsp2 hbk hfl))
      all_goals
        obtain ⟨w3, hw3⟩ : ∃ w3, w2.setCell ⟨k, 10, none⟩ (.slice A2 (cl.length + 1) c2) = w3 := ⟨_, rfl⟩
        have hfl := HFL.out
        rw [hw3] at hfl
        obtain ⟨ds3, cl3, ps3, T3', hc3, hn3, _⟩ := hfl.1.core
        obtain ⟨A4, c4, hv3, _, _⟩ := hc3.own.shape
        rw [hn3] at hv3
        have h9 := hfl.1.blk.cell 9
        simp [FB.cells] at h9
        simp only at hv3
        rw [hv3] at h9
        rw [hw3]
        have H9 := Lib.hid h9
        have HFL2 := Lib.hid hfl
        have HV3 := Lib.hid hv3
        clear h9 hfl hv3 hc3 hn3 HFL hw3 y10 z10 d10 d10a e10
        go_wp2_with fail
        refine ⟨⟨_, _, A4, c4, H9.out, HFL2.out.1, HV3.out, HB.out.2.1, HB.out.2.2.1, HB.out.2.2.2.trans (Touch.undrewN (n := 1) HFL2.out.2.2) fun _ _ h => h⟩, ?_⟩
        rw [sliceLen_of H9.out, sliceLen_of e9]
        exact HFL2.out.2.1
    · obtain rfl : n' = 0 := by omega
      obtain ⟨ds, cl, ps, T, hc, hds, hps, hT, hcl, _⟩ := HA.out.core
      obtain rfl : ds = [] := List.eq_nil_of_length_eq_zero hds
      rw [List.append_nil] at hps
      obtain ⟨A, cc, hchs, _, _⟩ := hc.chs.shape
      obtain ⟨A1, c1, hdls, _, _⟩ := hc.dls.shape
      have e10 := HA.out.blk.cell 10
      have e0 := HA.out.blk.cell 0
      simp [FB.cells, hchs] at e10
      simp [FB.cells, HB.out.2.1] at e0
      have hRr := R3.out.touch HB.out.2.2.2 (by have := HLOW.out; omega)
      have q10 := hRr.cell 10
      have g10 := hRr.free 10
      simp [RP.cells, hrc] at q10
      have HCO := Lib.hid hc
      have HPS := Lib.hid hps
      have HTT := Lib.hid hT
      have HCH := Lib.hid hchs
      have HDL := Lib.hid hdls
      have HRR := Lib.hid hRr
      have hb1 : 0 + cl.length ≤ maxLen := by simp only [maxLen]; simp at hcl; omega
      have hb2 : (0 + cl.length) * 16 ≤ 140737488355328 := by simp at hcl; omega
      have hb3 : base ≤ wr.drew.heap.size := by have := HA.out.lo; have := HA.out.blk.lt; simp; omega
      have HONE := Lib.hid (hc.chunks.one)
      have HCL := Lib.hid (show cl.length ≤ 3000 by simp at hcl; omega)
      clear hc hds hps hT hcl hchs hdls hRr
      go_upto_region 6 with fail
      apply wp_some3 (fun A2 c2 w2 => OwnsAt w2 base 187 1 (.slice A2 (0 + cl.length) c2) (0 + cl.length) ([] ++ cl) ∧ wr.drew.grownBy w2 none)
      · go_region_law (refine step_append_au _ rfl (.tmp 67) (.tmp 71) 166 166 rfl base 187 i0 _ 1 16 Try.underlying166 hi0 hz0 hz1 hz2 rfl (by decide) (.slice none 0 0) 0 [] ?_ (OwnsAt.nil _ _ _ _) (.slice A cl.length cc) cl.length cl ?_ (by have h := (HCO.out.chs); rw [HCH.out] at h; exact (h.drewN 1).src Try.underlying166 HONE.out) hb1 hb2 hb3 ?_; go_simp; go_simp; intro A2 c2 w2 own2 hg2 hgr2 hsp2; have hbr := HRR.out.drew.grown hg2 (by simp [Value.ownBlock]); have hbk := HA.out.blk.drew.grown hg2 (by simp [Value.ownBlock]); have m10 := hbr.cell 10; have n10 := hbr.free 10; have m0 := hbk.cell 0; simp [RP.cells, hrc] at m10; simp [FB.cells, HB.out.2.1] at m0; have HF2 := Lib.hid (And.intro own2 hg2); clear hbr hbk own2 hg2 hgr2 hsp2)
        all_goals exact ⟨A2, c2, w2, ⟨by simpa using HF2.out.1, HF2.out.2⟩, rfl, rfl⟩
      intro A2 c2 w2 hF2
      clear hb1 hb2 hb3
      rw [Nat.zero_add, List.nil_append] at hF2
      have hbr := (HRR.out.drew.grown hF2.2 (by simp)).put 10 (.slice A2 cl.length c2)
      have hbk := (HA.out.blk.drew.grown hF2.2 (by simp)).far (p := ⟨rt, 10, none⟩) (fun h => hrk h.symm) (.slice A2 cl.length c2)
      have hbr2 : Blk (w2.setCell ⟨rt, 10, none⟩ (.slice A2 cl.length c2)) rt 169 { r with cnt := f.cnt, ref := f.ref, base := f.base, chs := .slice A2 cl.length c2 }.cells := by simpa [RP.cells] using hbr
      have htV : Touch (· = rt) wr (w2.setCell ⟨rt, 10, none⟩ (.slice A2 cl.length c2)) := (((Touch.refl (· = rt) wr).drew).grown hF2.2 fun _ h _ => nomatch h).setCell (p := ⟨rt, 10, none⟩) (fun _ => rfl) _
      have hcV : Core (w2.setCell ⟨rt, 10, none⟩ (.slice A2 cl.length c2)) base f'.v f'.chs f'.dls [] cl ps T := HCO.out.away htV fun q t cs hq hz => by
        subst hz
        have := kindOf hq HRR.out
        subst this
        decide
      have hoV : OwnsAt (w2.setCell ⟨rt, 10, none⟩ (.slice A2 cl.length c2)) base 187 1 (.slice A2 cl.length c2) cl.length cl := hF2.1.touch ((Touch.refl (· = rt) w2).setCell (p := ⟨rt, 10, none⟩) (fun _ => rfl) _) fun q cs hq hz => by
        subst hz
        exact absurd (kindOf hq (HRR.out.drew.grown hF2.2 (by simp))) (by decide)
      obtain ⟨V, hV⟩ : ∃ V, w2.setCell ⟨rt, 10, none⟩ (.slice A2 cl.length c2) = V := ⟨_, rfl⟩
      rw [hV] at hbr2 hbk htV hcV hoV
      obtain ⟨m, hm⟩ : ∃ m, T.length = m := ⟨_, rfl⟩
      have hm4 : m ≤ 3000 := by have := HTT.out; have h2 := HDL.out; rw [← hm, ← List.length_map (f := Prod.snd), this]; exact hD
      obtain ⟨i2, hi2, hy0, hy1, hy2⟩ := info_parts info_ptrK
      have hmk := fun W => make_ptrs (P := Try.prog) (t := 167) (e := 171) Try.underlying167 hi2 hy0 hy1 hy2 m (by omega) W
      have o0 := hbk.cell 0
      have o11 := hbk.cell 11
      simp [FB.cells, HB.out.2.1] at o0
      simp [FB.cells, HDL.out, hm] at o11
      have hbra := hbr2.alloc (.cells (nils m) 171)
      have hbka := hbk.alloc (.cells (nils m) 171)
      have p11 : (V.alloc (.cells (nils m) 171)).cell? ⟨rt, 11, none⟩ = some r.dls := (hbra.cell 11).trans (by simp [RP.cells])
      have p11f := hbra.free 11
      have p0 : (V.alloc (.cells (nils m) 171)).cell? ⟨k, 0, none⟩ = some (.pointer (some ⟨rt, 0, none⟩)) := (hbka.cell 0).trans (by simp [FB.cells, HB.out.2.1])
      have HF2 := Lib.hid hF2
      have BR := Lib.hid hbra
      have BK := Lib.hid hbka
      have TV := Lib.hid htV
      have CV := Lib.hid hcV
      have OV := Lib.hid hoV
      have HV := Lib.hid hV
      have BRV := Lib.hid hbr2
      have BKV := Lib.hid hbk
      have HM := Lib.hid hm
      clear hF2 hbr hbr2 hbk htV hcV hoV hV hm hbra hbka
      go_upto_region 7 with fail
      rw [HV.out]
      apply wp_only
      · go_region_law fail
        all_goals exact ⟨rfl, rfl⟩
      obtain ⟨z, hz⟩ : ∃ z, V.heap.size = z := ⟨_, rfl⟩
      rw [hz]
      have hzk : z ≠ k := by have := BK.out.lt; have h2 := HA.out.blk.lt; have := TV.out.size; omega
      have hzr : z ≠ rt := by have h2 := HRR.out.lt; have := TV.out.size; omega
      have HZV := Lib.hid (Nat.le_of_eq hz)
      have hzb : base ≤ z := by have := HA.out.lo; have h2 := HA.out.blk.lt; have := TV.out.size; omega
      have x1 := BR.out.put 11 (.slice (some ⟨z, 0, none⟩) m m)
      have x2 := BK.out.far (p := ⟨rt, 11, none⟩) (fun h => hrk h.symm) (.slice (some ⟨z, 0, none⟩) m m)
      have x3 : Blk (V.alloc (.cells (nils m) 171)) z 171 (nils m) := by rw [← hz]; exact Blk.new V 171 _
      have x4 := x3.far (p := ⟨rt, 11, none⟩) hzr (.slice (some ⟨z, 0, none⟩) m m)
      have x5 : Touch (· = rt) V ((V.alloc (.cells (nils m) 171)).setCell ⟨rt, 11, none⟩ (.slice (some ⟨z, 0, none⟩) m m)) := ((Touch.refl (· = rt) V).alloc _).setCell (p := ⟨rt, 11, none⟩) (fun _ => rfl) _
      have x6 : Blk ((V.alloc (.cells (nils m) 171)).setCell ⟨rt, 11, none⟩ (.slice (some ⟨z, 0, none⟩) m m)) rt 169 { r with cnt := f.cnt, ref := f.ref, base := f.base, chs := .slice A2 cl.length c2, dls := .slice (some ⟨z, 0, none⟩) m m }.cells := by simpa [RP.cells] using x1
      obtain ⟨V2, hV2⟩ : ∃ V2, ((V.alloc (.cells (nils m) 171)).setCell ⟨rt, 11, none⟩ (.slice (some ⟨z, 0, none⟩) m m)).drew = V2 := ⟨_, rfl⟩
      have y1 : Blk V2 rt 169 { r with cnt := f.cnt, ref := f.ref, base := f.base, chs := .slice A2 cl.length c2, dls := .slice (some ⟨z, 0, none⟩) m m }.cells := by rw [← hV2]; exact x6.drew
      have y2 : Blk V2 k 202 f'.cells := by rw [← hV2]; exact x2.drew
      have y3 : Blk V2 z 171 (nils m) := by rw [← hV2]; exact x4.drew
      have y4 : Touch (· = rt) V V2 := by rw [← hV2]; exact x5.drew
      have a0 := y2.cell 0
      have a11 := y2.cell 11
      have b11 := y1.cell 11
      simp [FB.cells, HB.out.2.1] at a0
      simp [FB.cells, HDL.out, HM.out] at a11
      simp [RP.cells] at b11
      have Y1 := Lib.hid y1
      have Y2 := Lib.hid y2
      have Y3 := Lib.hid y3
      have Y4 := Lib.hid y4
      have HV2 := Lib.hid hV2
      rw [hV2]
      clear x1 x2 x3 x4 x5 x6 y1 y2 y3 y4 hV2 hz o0 o11 p0 p11 p11f hmk
      obtain ⟨g, off, hgo⟩ : ∃ g off, 0 < m → A1 = some ⟨g, off, none⟩ := by
        rcases Nat.eq_zero_or_pos m with h | h
        · exact ⟨0, 0, fun h2 => by omega⟩
        · obtain ⟨g, off, c, cur, hv, _⟩ := CV.out.dls.place (by have := HM.out; omega)
          rw [HDL.out] at hv
          injection hv with hv _ _
          exact ⟨g, off, fun _ => hv⟩
      have HGO := Lib.hid hgo
      clear hgo
      go_wp2_with fail
      go_loopw [92] (fun v wr2 => ∃ i : Nat, v = .int .i64 (i : Int) ∧ i ≤ m ∧ Hid (Blk wr2 z 171 (ptrs g off m i) ∧ Touch (· = z) V2 wr2)) (fun v _ => m - (intOf v).toNat)
      case atStart => exact ⟨0, rfl, by omega, by rw [ptrs_zero]; exact Y3.out, Touch.refl _ _⟩
      case round =>
        obtain ⟨i, rfl, him, hinv⟩ := hrel
        have d0 := (hinv.out.2.cell (p := ⟨k, 0, none⟩) Y2.out.lt (fun h => hzk h.symm)).trans a0
        have d11 := (hinv.out.2.cell (p := ⟨k, 11, none⟩) Y2.out.lt (fun h => hzk h.symm)).trans a11
        have e11 := (hinv.out.2.cell (p := ⟨rt, 11, none⟩) Y1.out.lt (fun h => hzr h.symm)).trans b11
        by_cases hlt2 : i < m
        · obtain rfl := HGO.out (by omega)
          have hi := hinv.out.1.cell i
          have hif := hinv.out.1.free i
          rw [ptrs_get g off m i hlt2] at hi
          have hiw : wrap64 ((i : Int) + 1) = ((i + 1 : Nat) : Int) := by unfold wrap64; omega
          have hput := hinv.out.1.put i (.pointer (some ⟨g, off + i * 2, none⟩))
          rw [ptrs_succ g off m i hlt2] at hput
          have htt := hinv.out.2.setCell (p := ⟨z, i, none⟩) (fun _ => rfl) (.pointer (some ⟨g, off + i * 2, none⟩))
          have HPT := Lib.hid (And.intro hput htt)
          clear hput htt
          go_upto_region 11 with fail
          apply wp_only
          · go_region_law fail
            all_goals exact ⟨rfl, rfl⟩
          go_wp2_with fail
          rw [hiw]
          exact ⟨⟨i + 1, rfl, Nat.succ_le_of_lt hlt2, HPT.out.1.drew, HPT.out.2.drew⟩, round_less hlt2⟩
        · obtain rfl : i = m := by omega
          have hbk2 := Y2.out.touch hinv.out.2 (fun h => hzk h.symm)
          have hbr2 := Y1.out.touch hinv.out.2 (fun h => hzr h.symm)
          have hf11 := hbk2.free 11
          obtain ⟨W5, hW5⟩ : ∃ W5, wr.setCell ⟨k, 11, none⟩ (.slice none 0 0) = W5 := ⟨_, rfl⟩
          have u1 : Blk W5 k 202 { f' with dls := .slice none 0 0 }.cells := by
            rw [← hW5]
            have h := hbk2.put 11 (.slice none 0 0)
            simpa [FB.cells] using h
          have u2 : Blk W5 rt 169 { r with cnt := f.cnt, ref := f.ref, base := f.base, chs := .slice A2 cl.length c2, dls := .slice (some ⟨z, 0, none⟩) i i }.cells := by
            rw [← hW5]
            exact hbr2.far (p := ⟨k, 11, none⟩) hrk _
          have u3 : Blk W5 z 171 (ptrs g off i i) := by
            rw [← hW5]
            exact hinv.out.1.far (p := ⟨k, 11, none⟩) hzk _
          have u4 : Touch (fun b => b = z ∨ b = k) V2 W5 := by
            rw [← hW5]
            exact (hinv.out.2.mono fun _ _ h => .inl h).setCell (p := ⟨k, 11, none⟩) (fun _ => .inr rfl) _
          have s0 := u1.cell 0
          have s6 := u1.cell 6
          have s10 := u2.cell 10
          have t0 := u2.cell 0
          have t1 := u2.cell 1
          have t2 := u2.cell 2
          have t3 := u2.cell 3
          have v0 := u2.free 0
          have v1 := u2.free 1
          have v2 := u2.free 2
          have v3 := u2.free 3
          simp [FB.cells, HB.out.2.1] at s0
          simp [FB.cells, HB.out.2.2.1] at s6
          simp [RP.cells] at s10 t0 t1 t2 t3
          obtain ⟨ln, hln⟩ : ∃ ln, f.len = ln := ⟨_, rfl⟩
          rw [hln] at s6
          have hl1 : 0 ≤ ln ∧ ln ≤ 6000 := by have := HLN.out; omega
          obtain ⟨hl1, hl2⟩ := hl1
          obtain ⟨N, hN⟩ : ∃ N : Int, (cl.length : Int) = N := ⟨_, rfl⟩
          have hN1 : 0 ≤ N ∧ N ≤ 3000 := by have := HCL.out; omega
          obtain ⟨hN1, hN2⟩ := hN1
          have hend : ∀ (pd : Bool) (hn : Int) (nq : Nat), RepAt (((((W5.drewN nq).setCell ⟨rt, 0, none⟩ (.bool pd)).setCell ⟨rt, 1, none⟩ (.int .u8 15)).setCell ⟨rt, 2, none⟩ (.int .u8 205)).setCell ⟨rt, 3, none⟩ (.int .u16 hn)) rt S D r.sd r.md (f.base : Int) (f.cnt : Int) f.ref r.fb ∧
              Touch (fun b => b = rt ∨ base ≤ b) w (((((W5.drewN nq).setCell ⟨rt, 0, none⟩ (.bool pd)).setCell ⟨rt, 1, none⟩ (.int .u8 15)).setCell ⟨rt, 2, none⟩ (.int .u8 205)).setCell ⟨rt, 3, none⟩ (.int .u16 hn)) := by
            intro pd hn nq
            have hkb := HA.out.lo
            have tE : Touch (· = rt) W5 (((((W5.drewN nq).setCell ⟨rt, 0, none⟩ (.bool pd)).setCell ⟨rt, 1, none⟩ (.int .u8 15)).setCell ⟨rt, 2, none⟩ (.int .u8 205)).setCell ⟨rt, 3, none⟩ (.int .u16 hn)) :=
              (((((Touch.refl (· = rt) W5).drewN nq).setCell (p := ⟨rt, 0, none⟩) (fun _ => rfl) _).setCell (p := ⟨rt, 1, none⟩) (fun _ => rfl) _).setCell (p := ⟨rt, 2, none⟩) (fun _ => rfl) _).setCell (p := ⟨rt, 3, none⟩) (fun _ => rfl) _
            have bE := ((((u2.drewN nq).put 0 (.bool pd)).put 1 (.int .u8 15)).put 2 (.int .u8 205)).put 3 (.int .u16 hn)
            have bE2 : Blk (((((W5.drewN nq).setCell ⟨rt, 0, none⟩ (.bool pd)).setCell ⟨rt, 1, none⟩ (.int .u8 15)).setCell ⟨rt, 2, none⟩ (.int .u8 205)).setCell ⟨rt, 3, none⟩ (.int .u16 hn)) rt 169 { r with pad := pd, hc := 15, ht := 205, hn := hn, cnt := f.cnt, ref := f.ref, base := f.base, chs := .slice A2 cl.length c2, dls := .slice (some ⟨z, 0, none⟩) i i }.cells := by simpa [RP.cells] using bE
            have tV : Touch (fun b => b = z ∨ b = k ∨ b = rt) V (((((W5.drewN nq).setCell ⟨rt, 0, none⟩ (.bool pd)).setCell ⟨rt, 1, none⟩ (.int .u8 15)).setCell ⟨rt, 2, none⟩ (.int .u8 205)).setCell ⟨rt, 3, none⟩ (.int .u16 hn)) :=
              ((Y4.out.mono fun _ _ h => .inr (.inr h)).trans u4 fun _ _ h => h.elim .inl fun h => .inr (.inl h)).trans tE fun _ _ h => .inr (.inr h)
            have hzV : V.heap.size ≤ z := HZV.out
            have hZ : ∀ q t cs, Blk V q t cs → (q = z ∨ q = k ∨ q = rt) → t = 202 ∨ t = 169 := by
              rintro q t cs hq (rfl | rfl | rfl)
              · have := hq.lt
                omega
              · exact .inl (kindOf hq BKV.out)
              · exact .inr (kindOf hq BRV.out)
            have hcE : Core (((((W5.drewN nq).setCell ⟨rt, 0, none⟩ (.bool pd)).setCell ⟨rt, 1, none⟩ (.int .u8 15)).setCell ⟨rt, 2, none⟩ (.int .u8 205)).setCell ⟨rt, 3, none⟩ (.int .u16 hn)) base f'.v f'.chs f'.dls [] cl ps T := CV.out.away tV fun q t cs hq hz => by
              rcases hZ q t cs hq hz with rfl | rfl <;> decide
            have hoE := OV.out.touch tV fun q cs hq hz => by rcases hZ q _ cs hq hz with h | h <;> exact absurd h (by decide)
            have hDl : D.length = i := by rw [← HTT.out, List.length_map, HM.out]
            refine ⟨⟨_, cl, ps, base, f'.v, A2, c2, z, g, off, bE2, ⟨rfl, rfl, rfl, rfl, rfl, rfl⟩, ⟨rfl, hoE, hcE.chunks, HPS.out, HCL.out⟩, by rw [hDl], ?_, ?_⟩, ?_⟩
            · rw [hDl]
              exact u3.touch tE hzr
            · rw [← HTT.out]
              refine TimesAt.of (n := i) (c := c1) hcE.dls fun hl => ?_
              rw [HDL.out, HM.out, HGO.out (by have := HM.out; omega)]
            · have t1 : Touch (fun b => b = rt ∨ base ≤ b) w W3 := T3.out.mono fun _ _ h => .inl h
              have t2 := t1.trans HB.out.2.2.2 fun _ _ h => .inr h
              have t3 := t2.trans TV.out fun _ _ h => .inl h
              exact t3.trans tV fun q _ h => by rcases h with rfl | rfl | rfl; exact .inr hzb; exact .inr hkb; exact .inl rfl
          have HEND := Lib.hid hend
          clear hend
          have U1 := Lib.hid u1
          have U2 := Lib.hid u2
          have U3 := Lib.hid u3
          have U4 := Lib.hid u4
          have HW5 := Lib.hid hW5
          clear u1 u2 u3 u4 hW5 hbk2 hbr2 hln
          go_upto_region 14 with fail
          rw [HW5.out]
          go_quiet (fail)
          go_wp2_with fail
          go_loop [4] (fun v => ∃ p : Int, v = .int .i64 p ∧ 0 ≤ p ∧ p ≤ 20000) (fun v => ((4 - (intOf v) % 4) % 4).toNat)
          case atStart => exact ⟨_, rfl, by omega, by omega⟩
          case round =>
            obtain ⟨p, rfl, hp0, hp1⟩ := hrel
            have htd : Int.tdiv p 4 = p / 4 := Int.tdiv_eq_ediv_of_nonneg hp0
            by_cases hp : p % 4 = 0
            · go_wp2_with fail
              go_ret
              rw [HRT.out]
              exact ⟨rfl, HEND.out _ _ nq⟩
            · go_wp2_with fail
              exact ⟨⟨p + 1, rfl, by omega, by omega⟩, by simp [intOf]; omega⟩
end Go.Proofs.Ytlkmmkphpiamcaa
