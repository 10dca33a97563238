/-
  impl.reports. Condition: the packets lie as they are told. By an AI agent.
-/
import Derived.Test.YtlkmmkphpiamcaaKy
namespace Go.Proofs.Ytlkmmkphpiamcaa
open Go.RowKit

theorem info_rep : (Try.prog.info? 74).map (fun i => (i.zero, i.size, i.bytes)) = some (some (.agg #[.int .u32 0, .int .u32 0, .int .i64 0, .int .i64 0, .int .u32 0, .int .i64 0, .slice none 0 0, .slice none 0 0]), 8, 88) := by kernel_rfl
theorem info_i64K : (Try.prog.info? 2).map (fun i => (i.zero, i.size, i.bytes)) = some (some (.int .i64 0), 1, 8) := by kernel_rfl
theorem under161K : ∃ e : TypeId, Try.prog.underlying 161 = some (.pointer e) := ⟨169, by kernel_rfl⟩

/-- So far: k reports. -/
structure RI (w wr : World) (rs : List Rp) (k : Nat) (u : Value) : Prop where
  ts : ∃ ts : List (Rp × Value × Value), ts.map Prod.fst = rs.take k ∧ wr.ownsRow w.heap.size 74 8 u k (rowsCells ts) ∧ ∀ t ∈ ts, RowAt wr w.heap.size t
  below : Below w.heap.size w wr

theorem ptrs_full (g off m j : Nat) (h : j < m) : (ptrs g off m m)[j]? = some (.pointer (some ⟨g, off + j * 2, none⟩)) := by
  simp [ptrs, h]
theorem TimesAt.cell {w : World} {g off : Nat} {D : List Int} (h : TimesAt w g off D) {j : Nat} {d : Int} (hj : D[j]? = some d) : w.cell? ⟨g, off + j * 2 + 1, none⟩ = some (.int .i64 d) := by
  obtain ⟨cur, h1, h2⟩ := h (Nat.lt_of_le_of_lt (Nat.zero_le j) (List.getElem?_eq_some_iff.1 hj).1)
  rw [cell_of_row w g _ cur 173 (0, 0) h1]
  exact h2 j d hj
theorem TimesAt.idle {w w' : World} {g off : Nat} {D : List Int} (h : TimesAt w g off D) (ht : Touch Nowhere w w') : TimesAt w' g off D := fun hl => by
  obtain ⟨cur, k1, k2⟩ := h hl
  exact ⟨cur, (ht.block g (lt_of_block k1) (fun h => h)).trans k1, k2⟩
/-- One report is being filled in block rb, the first that is new. -/
structure DI (wr V : World) (rb : Nat) (r : Rp) (a : Value) (A : Option Addr) (j c : Nat) : Prop where
  blk : Blk V rb 74 (rpCells r a (.slice A j c)).toArray
  S : OwnsAt V (rb + 1) 3 1 a r.S.length (is64 r.S)
  D : OwnsAt V (rb + 1) 2 1 (.slice A j c) j (i64s (r.D.take j))
  touch : Touch Nowhere wr V
theorem DI.ne {wr V : World} {rb : Nat} {r : Rp} {a : Value} {A : Option Addr} {j c : Nat} (h : DI wr V rb r a A j c) : (Value.slice A j c).ownBlock ≠ some rb := fun e => by
  have := (h.D.lt rb e).1
  omega
theorem DI.store {wr V w4 : World} {rb : Nat} {r : Rp} {a : Value} {A : Option Addr} {j c : Nat} {d : Int} (h : DI wr V rb r a A j c) (hg : (V.drew.alloc (.cells #[.int .i64 d] 2)).grownBy w4 (Value.slice A j c).ownBlock) :
    w4.cell? ⟨rb, 7, none⟩ = some (.slice A j c) ∧ w4.frozen? ⟨rb, 7, none⟩ = false := by
  have hb := (h.blk.drew.alloc (.cells #[.int .i64 d] 2)).grown hg h.ne.symm
  exact ⟨(hb.cell 7).trans (by simp [rpCells]), hb.free 7⟩
theorem DI.next {wr V w4 : World} {rb : Nat} {r : Rp} {a : Value} {A A4 : Option Addr} {j c c4 : Nat} {d : Int} (h : DI wr V rb r a A j c) (hw : wr.heap.size = rb) (hd : r.D[j]? = some d)
    (ho : OwnsAt w4 (rb + 1) 2 1 (.slice A4 (j + 1) c4) (j + 1) (i64s (r.D.take j) ++ [.int .i64 d])) (hg : (V.drew.alloc (.cells #[.int .i64 d] 2)).grownBy w4 (Value.slice A j c).ownBlock) :
    DI wr (w4.setCell ⟨rb, 7, none⟩ (.slice A4 (j + 1) c4)) rb r a A4 (j + 1) c4 := by
  have hb := (h.blk.drew.alloc (.cells #[.int .i64 d] 2)).grown hg h.ne.symm
  have hb7 := hb.put 7 (.slice A4 (j + 1) c4)
  have hD1 := h.D.drew.alloc (.cells #[.int .i64 d] 2)
  have hS1 : OwnsAt w4 (rb + 1) 3 1 a r.S.length (is64 r.S) := (h.S.drew.alloc (.cells #[.int .i64 d] 2)).touch (grown_touch hg) fun q cs hq hs => by
    obtain ⟨cur, hc⟩ := hD1.kind hs
    exact absurd (kindOf hq hc) (by decide)
  refine ⟨by simpa [rpCells] using hb7, hS1.far (p := ⟨rb, 7, none⟩) (fun e => by have h1 : rb + 1 ≤ rb := (hS1.lt rb e).1; omega) _, ?_, ?_⟩
  · have h1 := ho.far (p := ⟨rb, 7, none⟩) (fun e => by have h1 : rb + 1 ≤ rb := (ho.lt rb e).1; omega) (.slice A4 (j + 1) c4)
    have e : i64s (r.D.take (j + 1)) = i64s (r.D.take j) ++ [.int .i64 d] := by simp [i64s, List.take_add_one, hd]
    rw [e]
    exact h1
  · exact ((h.touch.drew.alloc _).grown hg fun k hk hlt => by have := (h.D.lt k hk).1; omega).setCell (p := ⟨rb, 7, none⟩) (fun hlt => by have h1 : rb < wr.heap.size := hlt; omega) _
theorem RI.next {w wr V w1 : World} {rs : List Rp} {k rb : Nat} {u u' : Value} {ts : List (Rp × Value × Value)} {r : Rp} {a : Value} {A : Option Addr} {m c : Nat} {o : Obj} (hts : ts.map Prod.fst = rs.take k) (hO : wr.ownsRow w.heap.size 74 8 u k (rowsCells ts)) (hrow : ∀ t ∈ ts, RowAt wr w.heap.size t)
    (hb : Below w.heap.size w wr) (hrb : wr.heap.size = rb) (hr : rs[k]? = some r) (hm : r.D.length = m) (hd : DI wr V rb r a A m c) (hown : w1.ownsRow w.heap.size 74 8 u' (k + 1) (rowsCells ts ++ rpCells r a (.slice A m c))) (hgrow : (V.alloc o).grownBy w1 u.ownBlock) : RI w w1 rs (k + 1) u' := by
  subst hm
  have hsz := hb.size
  have hO1 := OwnsAt.ofRow (own_touch hO hd.touch fun _ _ h => h)
  have hkind : ∀ q t cs, Blk (V.alloc o) q t cs → u.ownBlock = some q → t ≠ 3 ∧ t ≠ 2 := fun q t cs hq hs => by
    obtain ⟨cur, hc⟩ := (hO1.alloc o).kind hs
    rw [kindOf hq hc]
    decide
  have hmove : ∀ t, RowAt V w.heap.size t → RowAt w1 w.heap.size t := fun t ht => (ht.keep ((Touch.refl Nowhere V).alloc o) fun _ _ h => h).kinds (grown_touch hgrow) hkind
  refine ⟨⟨ts ++ [(r, a, .slice A r.D.length c)], ?_, by rw [rowsCells_snoc]; exact hown, fun t ht => ?_⟩, ?_⟩
  · rw [List.map_append, hts, List.take_add_one, hr]
    rfl
  · rcases List.mem_append.1 ht with ht | ht
    · exact hmove t ((hrow t ht).keep hd.touch fun _ _ h => h)
    · simp only [List.mem_singleton] at ht
      subst ht
      refine hmove _ ⟨hd.S.low (by omega), ?_⟩
      have h1 := hd.D.low (b' := w.heap.size) (by omega)
      rwa [List.take_length] at h1
  · have h1 : Below w.heap.size wr V := hd.touch.below hsz fun _ _ h => h
    exact ((hb.trans h1).alloc (Nat.le_trans hsz h1.size) o).grown hgrow (by simp; have := h1.size; omega) fun g hg => (hO.lt g hg).1

set_option maxRecDepth 1000000 in
set_option maxHeartbeats 4000000 in
theorem reports_any (base c n : Nat) (A : Option Addr) (pks : List (Nat × Rp)) (w : World) (ho : OwnsAt w base 160 1 (.slice A n c) n (pks.map pkCell)) (hp : ∀ p ∈ pks, PkAt w p) (hn : n ≤ 1000) :
    Calls Try.prog 59 #[.slice A n c] w (ReportsPost (pks.map Prod.snd) w) := by
  obtain ⟨i0, hi0, hz0, hz1, hz2⟩ := info_parts info_rep
  obtain ⟨i2, hi2, hy0, hy1, hy2⟩ := info_parts info_i64K
  obtain ⟨e161, he161⟩ := under161K
  have hit161 := fun v w => assert_hit (P := Try.prog) (xt := 160) he161 v w
  have hlen : pks.length = n := by have := ho.1; simpa using this
  have HO := Lib.hid ho
  have HP := Lib.hid hp
  have HL := Lib.hid hlen
  clear ho hp hlen he161
  go_enter Try.func59, Try.ntmps59
  go_wp2_with fail
  go_loopw [3, 13] (fun u i wr => ∃ k : Nat, k ≤ n ∧ i = .int .i64 (k : Int) ∧ Hid (RI w wr (pks.map Prod.snd) k u)) (fun _ i _ => n - (intOf i).toNat)
  case atStart => exact ⟨0, by omega, rfl, ⟨[], rfl, World.ownsRow_nil _ _ _ _, by simp⟩, Below.refl _ _⟩
  case round =>
    obtain ⟨k, hk, rfl, hinv⟩ := hrel
    obtain ⟨ts, its, iown, irow⟩ := hinv.out.ts
    by_cases hlt : k < n
    · obtain ⟨pk, hpk⟩ : ∃ p, pks[k]? = some p := ⟨_, List.getElem?_eq_getElem (by rw [HL.out]; exact hlt)⟩
      obtain ⟨rt, r⟩ := pk
      have hpa := (HP.out _ (List.mem_of_getElem? hpk)).idle (Touch.ofBelow hinv.out.below (fun i hi h => by omega))
      obtain ⟨ad, rfl, hadlt, _, hcell⟩ := HO.out.cells (by omega)
      have hcl := (hinv.out.below.cell (p := ad.add k) (by rw [addr_block]; exact hadlt)).trans (hcell k (pkCell (rt, r)) (by simp [hpk]))
      simp only [pkCell] at hcl
      obtain ⟨rp, cl, ps, b, v, A1, c1, z, g, off, h1, ⟨q1, q2, q3, q4, q5, q6⟩, ⟨h3, h4, h5, h6, h7⟩, h8, h9, h10⟩ := hpa.rep
      simp only at h1 q1 q2 q3 q4 q5 q6 h6 h8 h9 h10
      have r4 := h1.cell 4
      have r5 := h1.cell 5
      have r6 := h1.cell 6
      have r7 := h1.cell 7
      have r8 := h1.cell 8
      have r9 := h1.cell 9
      simp [RP.cells, q1, q2, q3, q4, q5, q6] at r4 r5 r6 r7 r8 r9
      obtain ⟨ok1, ok2, ok3, ok4, ok5⟩ := hpa.ok
      simp only at ok1 ok2 ok3 ok4 ok5
      obtain ⟨sd, hsd⟩ : ∃ x, r.sd = x := ⟨_, rfl⟩
      obtain ⟨md, hmd⟩ : ∃ x, r.md = x := ⟨_, rfl⟩
      obtain ⟨bs, hbs⟩ : ∃ x, r.bs = x := ⟨_, rfl⟩
      obtain ⟨rf, hrf⟩ : ∃ x, r.ref = x := ⟨_, rfl⟩
      obtain ⟨fb, hfb⟩ : ∃ x, r.fb = x := ⟨_, rfl⟩
      obtain ⟨sn, hsn⟩ : ∃ x, r.S.length = x := ⟨_, rfl⟩
      rw [hsd] at r4
      rw [hmd] at r5
      rw [hbs] at r6 ok1
      rw [hrf] at r8
      rw [hfb] at r9 ok2
      rw [hsn] at r7 ok3
      have w1 : IntKind.i64.wrap (bs : Int) = (bs : Int) := IntWalk.i64_in _ (by omega)
      have w2 : IntKind.i64.wrap (fb : Int) = (fb : Int) := IntWalk.i64_in _ (by omega)
      have w3 : IntKind.i64.wrap (sn : Int) = (sn : Int) := IntWalk.i64_in _ (by omega)
      have hlr := h1.lt
      have aK : ∀ o : Obj, (wr.alloc o).cell? ⟨rt, 4, none⟩ = some (.int .u32 sd) ∧ (wr.alloc o).cell? ⟨rt, 5, none⟩ = some (.int .u32 md) ∧ (wr.alloc o).cell? ⟨rt, 6, none⟩ = some (.int .u16 (bs : Int)) ∧ (wr.alloc o).cell? ⟨rt, 7, none⟩ = some (.int .u16 (sn : Int)) ∧ (wr.alloc o).cell? ⟨rt, 8, none⟩ = some (.int .u32 rf) ∧ (wr.alloc o).cell? ⟨rt, 9, none⟩ = some (.int .u8 (fb : Int)) := by
        intro o
        have hk : ∀ i, (wr.alloc o).cell? ⟨rt, i, none⟩ = wr.cell? ⟨rt, i, none⟩ := fun i => World.cell?_of_block (Below.heap_alloc wr o rt hlr)
        simp only [hk]
        exact ⟨r4, r5, r6, r7, r8, r9⟩
      have HPK := Lib.hid (show (pks.map Prod.snd)[k]? = some r by simp [hpk])
      have HIT := Lib.hid (And.intro its (And.intro iown irow))
      have HIB := Lib.hid hinv.out.below
      clear its iown irow hinv
      have H1 := Lib.hid h1
      have H3 := Lib.hid (And.intro h3 (And.intro h4 (And.intro h5 (And.intro h6 h7))))
      have H8 := Lib.hid h8
      have H9 := Lib.hid h9
      have H10 := Lib.hid h10
      have HOK := Lib.hid (And.intro ok4 ok5)
      have HQ := Lib.hid (And.intro hsd (And.intro hmd (And.intro hbs (And.intro hrf (And.intro hfb hsn)))))
      clear hpk hpa hcell h1 q1 q2 q3 q4 q5 q6 h3 h4 h5 h6 h7 h8 h9 h10 hsd hmd hbs hrf hfb hsn ok4 ok5
      go_upto_region 7 with fail
      have AK := Lib.hid aK
      clear aK
      apply wp_only
      · go_region_held3 (fun w' => w'.cell? ⟨rt, 4, none⟩ = some (.int .u32 sd) ∧ w'.cell? ⟨rt, 5, none⟩ = some (.int .u32 md) ∧ w'.cell? ⟨rt, 6, none⟩ = some (.int .u16 (bs : Int)) ∧ w'.cell? ⟨rt, 7, none⟩ = some (.int .u16 (sn : Int)) ∧ w'.cell? ⟨rt, 8, none⟩ = some (.int .u32 rf) ∧ w'.cell? ⟨rt, 9, none⟩ = some (.int .u8 (fb : Int))) (first | exact ⟨r4, r5, r6, r7, r8, r9⟩ | exact AK.out _) (fail)
        all_goals exact ⟨rfl, rfl⟩
      clear r4 r5 r6 r7 r8 r9 w1 w2 w3
      obtain ⟨W1, hW1⟩ : ∃ W1, (wr.alloc (.cells #[.int .u32 sd, .int .u32 md, .int .i64 (bs : Int), .int .i64 (sn : Int), .int .u32 rf, .int .i64 (fb : Int), .slice none 0 0, .slice none 0 0] 74)).drew = W1 := ⟨_, rfl⟩
      obtain ⟨rb, hrb⟩ : ∃ rb, wr.heap.size = rb := ⟨_, rfl⟩
      have B1 : Blk W1 rb 74 #[.int .u32 sd, .int .u32 md, .int .i64 (bs : Int), .int .i64 (sn : Int), .int .u32 rf, .int .i64 (fb : Int), .slice none 0 0, .slice none 0 0] := by
        rw [← hW1, ← hrb]
        exact (Blk.new wr 74 _).drew
      have T1 : Touch Nowhere wr W1 := by
        rw [← hW1]
        exact ((Touch.refl Nowhere wr).alloc _).drew
      have hszW : W1.heap.size = rb + 1 := by rw [← hW1, ← hrb]; simp
      rw [hW1, hrb]
      rw [hrb] at hlr
      have t10 := (H1.out.touch T1 (fun h => h)).cell 10
      have t3 := B1.cell 3
      simp [RP.cells, H3.out.1] at t10
      simp at t3
      have HOP : Hid (Calls Try.prog 83 #[.slice A1 cl.length c1, .int .i64 (sn : Int)] W1.drew fun e w' => ∃ A2 c2, e = .returned (.slice A2 sn c2) ∧ OwnsAt w' (rb + 1) 3 1 (.slice A2 sn c2) sn (is64 r.S) ∧ Below (rb + 1) W1 w') := by
        obtain ⟨k1, k2, k3, k4, k5⟩ := H3.out
        have ho1 := k2.touch T1 fun _ _ _ h => h
        rw [k1] at ho1
        have hc1 := k3.map (v' := v) fun c p hc => hc.step T1.drew (fun _ _ _ _ _ h => h) fun g o es he => he.touch T1.drew fun _ _ _ h => h
        refine (opened_any b c1 sn A1 v cl ps W1.drew ho1 hc1 k5 (by rw [k4, HQ.out.2.2.2.2.2]; omega) (by omega) (by rw [k4]; exact HOK.out.2)).mono ?_
        rintro e w' ⟨A2, c2, rfl, hown, hbel⟩
        have hs1 : W1.drew.heap.size = rb + 1 := hszW
        rw [hs1, k4, HQ.out.2.2.2.2.2, Nat.min_self, List.take_of_length_le (by rw [HQ.out.2.2.2.2.2]; exact Nat.le_refl _)] at hown
        rw [hs1] at hbel
        rw [k4, HQ.out.2.2.2.2.2, Nat.min_self]
        exact ⟨A2, c2, rfl, hown, ⟨hbel.os, hbel.tape, hbel.output, hbel.size, hbel.block⟩⟩
      have BB1 := Lib.hid B1
      have TT1 := Lib.hid T1
      have HSW := Lib.hid hszW
      have HRB := Lib.hid hrb
      clear hW1 hrb B1 T1 hszW
      go_upto_region 8 with fail
      apply wp_some3 (fun A2 c2 w2 => OwnsAt w2 (rb + 1) 3 1 (.slice A2 sn c2) sn (is64 r.S) ∧ Below (rb + 1) W1 w2)
      · go_region_law (go_simp; go_at_call 83; refine HOP.out.mono ?_; rintro e w2 ⟨A2, c2, rfl, hown, hbel⟩; have hb2 := BB1.out.below hbel (by omega); have y6 := hb2.cell 6; have z6 := hb2.free 6; simp at y6; have HF2 := Lib.hid (And.intro hown hbel); clear hown hbel hb2)
        all_goals exact ⟨A2, c2, w2, HF2.out, rfl, rfl⟩
      intro A2 c2 w2 hF2
      have hb2 := (BB1.out.below hF2.2 (Nat.lt_succ_self rb)).put 6 (.slice A2 sn c2)
      have ho2 := hF2.1.far (p := ⟨rb, 6, none⟩) (fun e => by have h1 : rb + 1 ≤ rb := (hF2.1.lt rb e).1; omega) (.slice A2 sn c2)
      have ht2 : Touch Nowhere wr (w2.setCell ⟨rb, 6, none⟩ (.slice A2 sn c2)) := (TT1.out.trans (Touch.ofBelow (S := Nowhere) hF2.2 fun i hi h => by have := HSW.out; omega) fun _ _ h => h).setCell (p := ⟨rb, 6, none⟩) (fun h => by have h1 : rb < wr.heap.size := h; have := HRB.out; omega) _
      obtain ⟨V, hV⟩ : ∃ V, w2.setCell ⟨rb, 6, none⟩ (.slice A2 sn c2) = V := ⟨_, rfl⟩
      rw [hV] at hb2 ho2 ht2 ⊢
      obtain ⟨m, hm⟩ : ∃ m, r.D.length = m := ⟨_, rfl⟩
      have hm3 : m ≤ 1000 := by rw [← hm]; exact HOK.out.1
      have e11 := (H1.out.touch ht2 (fun h => h)).cell 11
      simp [RP.cells, H8.out, hm] at e11
      have hdi : DI wr V rb r (.slice A2 sn c2) none 0 0 := by
        refine ⟨?_, by rw [HQ.out.2.2.2.2.2]; exact ho2, OwnsAt.nil _ _ _ _, ht2⟩
        obtain ⟨e1, e2, e3, e4, e5, e6⟩ := HQ.out
        simp only [rpCells, e1, e2, e3, e4, e5, e6]
        simpa using hb2
      have HDI := Lib.hid hdi
      have HM := Lib.hid hm
      have hzlt := H9.out.lt
      clear hb2 ho2 ht2 hV hm hdi hF2
      go_wp2_with fail
      go_loopw [65] (fun i wr2 => ∃ (j : Nat) (A3 : Option Addr) (c3 : Nat), j ≤ m ∧ i = .int .i64 (j : Int) ∧ wr2.cell? ⟨rb, 7, none⟩ = some (.slice A3 j c3) ∧ Hid (DI wr wr2 rb r (.slice A2 sn c2) A3 j c3)) (fun i _ => m - (intOf i).toNat)
      case atStart => exact ⟨0, none, 0, Nat.zero_le _, rfl, (HDI.out.blk.cell 7).trans (by simp [rpCells]), HDI.out⟩
      case round =>
        obtain ⟨j, A3, c3, hj, rfl, e7, hdi⟩ := hrel
        by_cases hlt2 : j < m
        · obtain ⟨d, hd⟩ : ∃ d, r.D[j]? = some d := ⟨_, List.getElem?_eq_getElem (by rw [HM.out]; exact hlt2)⟩
          have ez := (H9.out.touch hdi.out.touch (fun h => h)).cell j
          rw [HM.out, ptrs_full g off m j hlt2] at ez
          have eg := (H10.out.idle hdi.out.touch).cell hd
          have hb1 : j + 1 ≤ maxLen := by simp only [maxLen]; omega
          have hb2 : (j + 1) * 8 ≤ 140737488355328 := by omega
          have hb3 : rb + 1 ≤ (wr.alloc (.cells #[.int .i64 d] 2)).heap.size := by have := hdi.out.blk.lt; simp; omega
          have e7a : (wr.alloc (.cells #[.int .i64 d] 2)).cell? ⟨rb, 7, none⟩ = some (.slice A3 j c3) := ((hdi.out.blk.alloc (.cells #[.int .i64 d] 2)).cell 7).trans (by simp [rpCells])
          have ega := ((H10.out.idle (hdi.out.touch.alloc (.cells #[.int .i64 d] 2)))).cell hd
          have hone : ∀ u ∈ [Value.int .i64 d], u.oneCell' = true := by simp [Value.oneCell']
          have HD := Lib.hid hd
          have HONE := Lib.hid hone
          clear hd hone
          go_upto_region 12 with fail
          apply wp_some3 (fun A4 c4 w4 => OwnsAt w4 (rb + 1) 2 1 (.slice A4 (j + 1) c4) (j + 1) (i64s (r.D.take j) ++ [.int .i64 d]) ∧ (wr.drew.alloc (.cells #[.int .i64 d] 2)).grownBy w4 (Value.slice A3 j c3).ownBlock)
          · go_region_law (refine step_append_au _ rfl (.tmp 70) (.tmp 75) 23 23 rfl (rb + 1) 2 i2 _ 1 8 Try.underlying23 hi2 hy0 hy1 hy2 rfl (by decide) (.slice A3 j c3) j (i64s (r.D.take j)) ?_ (hdi.out.D.alloc (.cells #[.int .i64 d] 2)) (.slice (some ⟨wr.heap.size, 0, none⟩) 1 1) 1 [.int .i64 d] ?_ (Src.ofSlice _ Try.underlying23 ⟨wr.heap.size, 0, none⟩ 1 1 _ rfl (World.news_of_block (cs := #[.int .i64 d]) (t := 2) (fr := (0, 0)) (heap_alloc_new wr _)) HONE.out) hb1 hb2 hb3 ?_; go_simp; go_simp; intro A4 c4 w4 own4 hg4 hgr4 hsp4; obtain ⟨y7, z7⟩ := hdi.out.store (w4 := w4) hg4; have HF4 := Lib.hid (And.intro own4 hg4); clear own4 hg4 hgr4 hsp4)
            all_goals exact ⟨A4, c4, w4, HF4.out, rfl, rfl⟩
          intro A4 c4 w4 hF4
          have HDI2 := Lib.hid (hdi.out.next HRB.out HD.out hF4.1 hF4.2)
          clear hF4 ez eg e7a ega hb1 hb2 hb3 e7
          go_wp2_with fail
          exact ⟨⟨j + 1, A4, c4, by omega, by go_num, (HDI2.out.blk.cell 7).trans (by simp [rpCells]), HDI2.out⟩, by simp [intOf]; omega⟩
        · obtain rfl : j = m := by omega
          have g0 := hdi.out.blk.cell 0
          have g1 := hdi.out.blk.cell 1
          have g2 := hdi.out.blk.cell 2
          have g3 := hdi.out.blk.cell 3
          have g4 := hdi.out.blk.cell 4
          have g5 := hdi.out.blk.cell 5
          have g6 := hdi.out.blk.cell 6
          simp [rpCells] at g0 g1 g2 g3 g4 g5 g6
          have hszb : w.heap.size ≤ wr.heap.size := Nat.le_trans HIB.out.size hdi.out.touch.size
          have hown3 := own_touch HIT.out.2.1 hdi.out.touch fun _ _ h => h
          have HO3 := Lib.hid hown3
          clear hown3
          go_wp2_with (at_builtin; refine wpList_append_lies _ rfl _ _ _ rfl w.heap.size 74 i0 _ 8 88 Try.underlying71 hi0 hz0 hz1 hz2 rfl (by decide) u3 k _ rfl (HO3.out.alloc _) ⟨wr.heap.size, 0, none⟩ 1 1 (rpCells r (.slice A2 sn c2) (.slice A3 j c3)) rfl rfl (World.news_of_block (cs := (rpCells r (.slice A2 sn c2) (.slice A3 j c3)).toArray) (t := 74) (fr := (0, 0)) (heap_alloc_new wr _)) (by simp [rpCells, Value.oneCell']) (by omega) (by simp only [maxLen]; omega) (by omega) (by simp; omega) (wr.heap.size + 1) (by simp) ?_; intro gg cap w1 hown1 hgrow hat hlt1)
          exact ⟨⟨k + 1, by omega, by go_num, RI.next HIT.out.1 HIT.out.2.1 HIT.out.2.2 HIB.out HRB.out HPK.out HM.out hdi.out hown1 hgrow⟩, by simp [intOf]; omega⟩
    · obtain rfl : k = n := by omega
      obtain ⟨A5, c5, rfl⟩ := own_slice iown
      have hfin : ReportsPost (pks.map Prod.snd) w (.returned (.slice A5 k c5)) wr := by
        have hl : (pks.map Prod.snd).length = k := by rw [List.length_map, HL.out]
        refine ⟨A5, c5, by rw [hl], ⟨ts, ?_, by rw [hl]; exact OwnsAt.ofRow iown, irow⟩, hinv.out.below⟩
        rw [its, List.take_of_length_le (by rw [hl]; exact Nat.le_refl _)]
      have HF := Lib.hid hfin
      clear hfin its iown irow hinv
      go_wp2_with fail
      go_ret
      exact HF.out
end Go.Proofs.Ytlkmmkphpiamcaa
