/-
  The contract of spec.Feedback. Conditions: at most 200 numbers. By an AI agent.
-/
import Derived.Test.YtlkmmkphpiamcaaBf
import Derived.Test.YtlkmmkphpiamcaaKz
import Derived.Test.YtlkmmkphpiamcaaBq
namespace Go.Proofs.Ytlkmmkphpiamcaa
open Go.RowKit

/-- What spec.Feedback gives. -/
def SFPost (xs : List Nat) (ts : List Int) (w : World) (v : Ending) (w' : World) : Prop :=
  Below w.heap.size w w' ∧ ∃ (bs cn rf : Int) (A1 : Option Addr) (n1 c1 : Nat) (A2 : Option Addr) (n2 c2 : Nat) (b : Bool), v = .returned (.tuple #[.agg #[.int .i64 bs, .int .i64 cn, .int .u32 rf, .slice A1 n1 c1, .slice A2 n2 c2], .bool b]) ∧
    (b = true → ∃ (s e : Nat) (st : St), Tells xs ts s e st ∧ bs = ((s % 65536 : Nat) : Int) ∧ cn = ((e - s : Nat) : Int) ∧ rf = recF (xs.zip ts) s / 64000 ∧ n1 = st.S.length ∧ n2 = st.D.length ∧
      OwnsAt w' w.heap.size 3 1 (.slice A1 n1 c1) n1 (is64 st.S) ∧ OwnsAt w' w.heap.size 2 1 (.slice A2 n2 c2) n2 (i64s st.D))
theorem sf_no {xs : List Nat} {ts : List Int} {w w' : World} (hb : Below w.heap.size w w') : SFPost xs ts w (.returned (.tuple #[.agg #[.int .i64 0, .int .i64 0, .int .u32 0, .slice none 0 0, .slice none 0 0], .bool false])) w' :=
  ⟨hb, 0, 0, 0, none, 0, 0, none, 0, 0, false, rfl, fun h => by simp at h⟩

/-- One frame but for two new blocks, whatever their order. -/
def Some2 (F : Nat → Nat → World → Prop) (A : Nat → Nat → Act) : Exit → Act → World → Prop := fun e a w => match e with
  | .normal => ∃ f l, F f l w ∧ a = A f l
  | _ => False
theorem wp_two {P : Program} {c : Code} {Q : Exit → Act → World → Prop} {a : Act} {w : World} (F : Nat → Nat → World → Prop) (A : Nat → Nat → Act) (h : c.wp P (Some2 F A) a w) (hq : ∀ f l w2, F f l w2 → Q .normal (A f l) w2) : c.wp P Q a w :=
  Code.wp_mono (fun e a w h => by
    cases e <;> first | (obtain ⟨f, l, hf, rfl⟩ := h; exact hq f l w hf) | exact h.elim) h

theorem mask24 {x : Int} (h0 : 0 ≤ x) (h1 : x < 16777216) : bits .and .u32 x 16777215 = x := by
  rw [u32_and x 16777215 h0 (by omega) (by decide) (by decide)]
  have e : x.toNat &&& (16777215 : Int).toNat = x.toNat % 2 ^ 24 := Nat.and_two_pow_sub_one_eq_mod x.toNat 24
  rw [e, Nat.mod_eq_of_lt (by omega)]
  omega
/-- The report that is being told. -/
structure OI (V wr : World) (ob base : Nat) (bs cn rf : Int) (S : List Nat) (D : List Int) (A1 : Option Addr) (c1 : Nat) (A2 : Option Addr) (c2 : Nat) : Prop where
  blk : Blk wr ob 68 #[.int .i64 bs, .int .i64 cn, .int .u32 rf, .slice A1 S.length c1, .slice A2 D.length c2]
  ownS : wr.ownsRow base 3 1 (.slice A1 S.length c1) S.length (is64 S)
  ownD : wr.ownsRow base 2 1 (.slice A2 D.length c2) D.length (i64s D)
  touch : Touch (· = ob) V wr
  lo : ob < base
  hi : base = V.heap.size
theorem OI.sym {V wr w4 : World} {ob base : Nat} {bs cn rf : Int} {S : List Nat} {D : List Int} {A1 A2 : Option Addr} {c1 c2 gg cap : Nat} {d : Nat} (h : OI V wr ob base bs cn rf S D A1 c1 A2 c2)
    (ho : w4.ownsRow base 3 1 (.slice (some ⟨gg, 0, none⟩) (S.length + 1) cap) (S.length + 1) (is64 S ++ [.int .i64 (d : Int)])) (hg : (wr.alloc (.cells #[.int .i64 (d : Int)] 3)).grownBy w4 (Value.slice A1 S.length c1).ownBlock) :
    Blk w4 ob 68 #[.int .i64 bs, .int .i64 cn, .int .u32 rf, .slice A1 S.length c1, .slice A2 D.length c2] ∧ OI V (w4.setCell ⟨ob, 3, none⟩ (.slice (some ⟨gg, 0, none⟩) (S.length + 1) cap)) ob base bs cn rf (S ++ [d]) D (some ⟨gg, 0, none⟩) cap A2 c2 := by
  have hlo := h.lo
  have hO1 := OwnsAt.ofRow h.ownS
  have hb4 := (h.blk.alloc (.cells #[.int .i64 (d : Int)] 3)).grown hg (fun e => by have := (hO1.lt ob e.symm).1; omega)
  have hka : ∀ q t cs, Blk (wr.alloc (.cells #[.int .i64 (d : Int)] 3)) q t cs → (Value.slice A1 S.length c1).ownBlock = some q → t = 3 := fun q t cs hq hh => by
    obtain ⟨cur, hc⟩ := (hO1.alloc (.cells #[.int .i64 (d : Int)] 3)).kind hh
    exact kindOf hq hc
  have hD4 : w4.ownsRow base 2 1 (.slice A2 D.length c2) D.length (i64s D) := own_kinds (own_touch h.ownD ((Touch.refl Nowhere wr).alloc (.cells #[.int .i64 (d : Int)] 3)) fun _ _ h => h) (grown_touch hg) fun q cs hq hh => absurd (hka q _ cs hq hh) (by decide)
  refine ⟨hb4, ⟨?_, ?_, own_far hD4 (p := ⟨ob, 3, none⟩) hlo _, ?_, hlo, h.hi⟩⟩
  · have h3 := hb4.put 3 (.slice (some ⟨gg, 0, none⟩) (S.length + 1) cap)
    simpa using h3
  · have h3 := own_far ho (p := ⟨ob, 3, none⟩) hlo (.slice (some ⟨gg, 0, none⟩) (S.length + 1) cap)
    have e : is64 (S ++ [d]) = is64 S ++ [.int .i64 (d : Int)] := by simp [is64]
    rw [e, List.length_append, List.length_singleton]
    exact h3
  · exact ((h.touch.alloc _).grown hg fun k hk hlt => by have h1 := (hO1.lt k hk).1; have := h.hi; omega).setCell (p := ⟨ob, 3, none⟩) (fun _ => rfl) _
theorem OI.time {V wr w4 : World} {ob base : Nat} {bs cn rf : Int} {S : List Nat} {D : List Int} {A1 A2 : Option Addr} {c1 c2 gg cap : Nat} {d : Int} (h : OI V wr ob base bs cn rf S D A1 c1 A2 c2)
    (ho : w4.ownsRow base 2 1 (.slice (some ⟨gg, 0, none⟩) (D.length + 1) cap) (D.length + 1) (i64s D ++ [.int .i64 d])) (hg : (wr.alloc (.cells #[.int .i64 d] 2)).grownBy w4 (Value.slice A2 D.length c2).ownBlock) :
    Blk w4 ob 68 #[.int .i64 bs, .int .i64 cn, .int .u32 rf, .slice A1 S.length c1, .slice A2 D.length c2] ∧ OI V (w4.setCell ⟨ob, 4, none⟩ (.slice (some ⟨gg, 0, none⟩) (D.length + 1) cap)) ob base bs cn rf S (D ++ [d]) A1 c1 (some ⟨gg, 0, none⟩) cap := by
  have hlo := h.lo
  have hO1 := OwnsAt.ofRow h.ownD
  have hb4 := (h.blk.alloc (.cells #[.int .i64 d] 2)).grown hg (fun e => by have := (hO1.lt ob e.symm).1; omega)
  have hka : ∀ q t cs, Blk (wr.alloc (.cells #[.int .i64 d] 2)) q t cs → (Value.slice A2 D.length c2).ownBlock = some q → t = 2 := fun q t cs hq hh => by
    obtain ⟨cur, hc⟩ := (hO1.alloc (.cells #[.int .i64 d] 2)).kind hh
    exact kindOf hq hc
  have hS4 : w4.ownsRow base 3 1 (.slice A1 S.length c1) S.length (is64 S) := own_kinds (own_touch h.ownS ((Touch.refl Nowhere wr).alloc (.cells #[.int .i64 d] 2)) fun _ _ h => h) (grown_touch hg) fun q cs hq hh => absurd (hka q _ cs hq hh) (by decide)
  refine ⟨hb4, ⟨?_, own_far hS4 (p := ⟨ob, 4, none⟩) hlo _, ?_, ?_, hlo, h.hi⟩⟩
  · have h3 := hb4.put 4 (.slice (some ⟨gg, 0, none⟩) (D.length + 1) cap)
    simpa using h3
  · have h3 := own_far ho (p := ⟨ob, 4, none⟩) hlo (.slice (some ⟨gg, 0, none⟩) (D.length + 1) cap)
    have e : i64s (D ++ [d]) = i64s D ++ [.int .i64 d] := by simp [i64s]
    rw [e, List.length_append, List.length_singleton]
    exact h3
  · exact ((h.touch.alloc _).grown hg fun k hk hlt => by have h1 := (hO1.lt k hk).1; have := h.hi; omega).setCell (p := ⟨ob, 4, none⟩) (fun _ => rfl) _

theorem OI.sym2 {V wr w4 : World} {ob base : Nat} {bs cn rf : Int} {S : List Nat} {D : List Int} {A1 A2 : Option Addr} {c1 c2 gg cap sn dn d : Nat} (h : OI V wr ob base bs cn rf S D A1 c1 A2 c2) (hs : S.length = sn) (hd : D.length = dn)
    (ho : w4.ownsRow base 3 1 (.slice (some ⟨gg, 0, none⟩) (sn + 1) cap) (sn + 1) (is64 S ++ [.int .i64 (d : Int)])) (hg : (wr.alloc (.cells #[.int .i64 (d : Int)] 3)).grownBy w4 (Value.slice A1 sn c1).ownBlock) :
    w4.cell? ⟨ob, 3, none⟩ = some (.slice A1 sn c1) ∧ w4.frozen? ⟨ob, 3, none⟩ = false ∧ w4.cell? ⟨ob, 4, none⟩ = some (.slice A2 dn c2) ∧ w4.frozen? ⟨ob, 4, none⟩ = false ∧
      OI V (w4.setCell ⟨ob, 3, none⟩ (.slice (some ⟨gg, 0, none⟩) (sn + 1) cap)) ob base bs cn rf (S ++ [d]) D (some ⟨gg, 0, none⟩) cap A2 c2 := by
  subst hs hd
  obtain ⟨h1, h2⟩ := h.sym ho hg
  exact ⟨h1.cell 3, h1.free 3, h1.cell 4, h1.free 4, h2⟩
theorem OI.time2 {V wr w4 : World} {ob base : Nat} {bs cn rf : Int} {S : List Nat} {D : List Int} {A1 A2 : Option Addr} {c1 c2 gg cap dn : Nat} {d : Int} (h : OI V wr ob base bs cn rf S D A1 c1 A2 c2) (hd : D.length = dn)
    (ho : w4.ownsRow base 2 1 (.slice (some ⟨gg, 0, none⟩) (dn + 1) cap) (dn + 1) (i64s D ++ [.int .i64 d])) (hg : (wr.alloc (.cells #[.int .i64 d] 2)).grownBy w4 (Value.slice A2 dn c2).ownBlock) :
    w4.cell? ⟨ob, 4, none⟩ = some (.slice A2 dn c2) ∧ w4.frozen? ⟨ob, 4, none⟩ = false ∧ OI V (w4.setCell ⟨ob, 4, none⟩ (.slice (some ⟨gg, 0, none⟩) (dn + 1) cap)) ob base bs cn rf S (D ++ [d]) A1 c1 (some ⟨gg, 0, none⟩) cap := by
  subst hd
  obtain ⟨h1, h2⟩ := h.time ho hg
  exact ⟨h1.cell 4, h1.free 4, h2⟩
theorem OI.cells {V wr : World} {ob base : Nat} {bs cn rf : Int} {S : List Nat} {D : List Int} {A1 A2 : Option Addr} {c1 c2 : Nat} (h : OI V wr ob base bs cn rf S D A1 c1 A2 c2) : wr.cell? ⟨ob, 3, none⟩ = some (.slice A1 S.length c1) ∧ wr.cell? ⟨ob, 4, none⟩ = some (.slice A2 D.length c2) := ⟨h.blk.cell 3, h.blk.cell 4⟩
theorem OI.rows {V wr : World} {ob base : Nat} {bs cn rf : Int} {S : List Nat} {D : List Int} {A1 A2 : Option Addr} {c1 c2 sn dn : Nat} (h : OI V wr ob base bs cn rf S D A1 c1 A2 c2) (hs : S.length = sn) (hd : D.length = dn) : wr.ownsRow base 3 1 (.slice A1 sn c1) sn (is64 S) ∧ wr.ownsRow base 2 1 (.slice A2 dn c2) dn (i64s D) := by
  subst hs hd
  exact ⟨h.ownS, h.ownD⟩
/-- In the second loop. -/
structure LI (V U : World) (F : Nat → Int) (its : List It) (ob s sl : Nat) (bs cn rf : Int) (nn a : Nat) (st : St) (A1 : Option Addr) (c1 : Nat) (A2 : Option Addr) (c2 sn dn : Nat) (v bt : Int) : Prop where
  hv : v = (nn : Int)
  hb : bt = st.t
  hs : (st.S ++ List.replicate (nn - st.q) 0).length = sn
  hd : st.D.length = dn
  le : nn ≤ sl + 1
  oi : OI V U ob (ob + 1) bs cn rf (st.S ++ List.replicate (nn - st.q) 0) st.D A1 c1 A2 c2
  tl : TL F its s nn a st
theorem foldSt_len {F : Nat → Int} : ∀ (n x : Nat) (st st' : St), foldSt F x n st = some st' → st.q ≤ x → st'.S.length + st.q = st.S.length + st'.q ∧ st'.D.length + st.S.length ≤ st.D.length + st'.S.length ∧ st.q ≤ st'.q
  | 0, x, st, st', h, hq => by
    simp only [foldSt, Option.some.injEq] at h
    subst h
    omega
  | n + 1, x, st, st', h, hq => by
    rw [foldSt, stepSt] at h
    split at h
    · exact foldSt_len n (x + 1) st st' (by simpa using h) (by omega)
    · split at h
      · have h1 := foldSt_len n (x + 1) _ st' (by simpa using h) (by simp [nextSt])
        simp only [nextSt, List.length_append, List.length_replicate, List.length_singleton] at h1
        omega
      · simp at h
theorem tl_len {F : Nat → Int} {its : List It} {s n a : Nat} {st : St} (h : TL F its s n a st) : st.S.length + s = st.q := by
  have := foldSt_len _ _ _ _ h.fold (by simp [st00])
  simp only [st00, List.length_nil] at this
  omega
theorem tl_len2 {F : Nat → Int} {its : List It} {s n a : Nat} {st : St} (h : TL F its s n a st) : st.D.length ≤ st.S.length := by
  have := foldSt_len _ _ _ _ h.fold (by simp [st00])
  simp only [st00, List.length_nil] at this
  omega
theorem foldSt_t {F : Nat → Int} : ∀ (n x : Nat) (st st' : St), foldSt F x n st = some st' → (∀ i, F i < 0 ∨ goodT (F i)) → (0 ≤ st.t ∧ st.t < 1073741824000) → 0 ≤ st'.t ∧ st'.t < 1073741824000
  | 0, x, st, st', h, _, hq => by
    simp only [foldSt, Option.some.injEq] at h
    subst h
    exact hq
  | n + 1, x, st, st', h, hF, hq => by
    rw [foldSt, stepSt] at h
    split at h
    · exact foldSt_t n (x + 1) st st' (by simpa using h) hF hq
    · split at h
      · refine foldSt_t n (x + 1) _ st' (by simpa using h) hF ?_
        rcases hF x with h1 | h1
        · omega
        · unfold goodT at h1
          simp only [nextSt]
          omega
      · simp at h
theorem recF_good {xs : List Nat} {ts : List Int} (hg : ∀ t ∈ ts, goodT t) (hl : xs.length = ts.length) (hd : xs.Nodup) (i : Nat) : recF (xs.zip ts) i < 0 ∨ goodT (recF (xs.zip ts) i) := by
  by_cases hi : i ∈ xs
  · obtain ⟨j, hj, e⟩ := List.mem_iff_getElem.1 hi
    have hz := zip_at (ts := ts) (show xs[j]? = some i by rw [← e]; exact List.getElem?_eq_getElem hj) (List.getElem?_eq_getElem (show j < ts.length by omega))
    rw [recF_in (by rw [zip_fst hl]; exact hd) (List.mem_of_getElem? hz)]
    exact .inr (hg _ (List.getElem_mem _))
  · rw [recF_out _ _ (by rw [zip_fst hl]; exact hi)]
    exact .inl (by decide)
theorem st00_t {F : Nat → Int} {s : Nat} {t : Int} (hF : ∀ i, F i < 0 ∨ goodT (F i)) (h0 : 0 ≤ t) (he : F s = t) : 0 ≤ (st00 s (F s)).t ∧ (st00 s (F s)).t < 1073741824000 := by
  rcases hF s with h1 | h1
  · omega
  · unfold goodT at h1
    simp only [st00]
    omega
theorem heap_alloc_set (w : World) (p : Addr) (u : Value) (o : Obj) : ((w.setCell p u).alloc o).heap[w.heap.size]? = some o := by
  have h := heap_alloc_new (w.setCell p u) o
  simpa [World.setCell] using h
theorem LI.zero {V : World} {F : Nat → Int} {its : List It} {ob s sl : Nat} {bs cn rf b0 v : Int} (hblk : Blk V ob 68 #[.int .i64 bs, .int .i64 cn, .int .u32 rf, .slice none 0 0, .slice none 0 0]) (hV : V.heap.size = ob + 1) (hv : v = (s : Int)) (hb : b0 = (st00 s (F s)).t) (hsl : s ≤ sl + 1)
    (htl : TL F its s s 0 (st00 s (F s))) : LI V V F its ob s sl bs cn rf s 0 (st00 s (F s)) none 0 none 0 0 0 v b0 := by
  have e : (st00 s (F s)).S ++ List.replicate (s - (st00 s (F s)).q) 0 = [] := by simp [st00]
  have e2 : (st00 s (F s)).D = [] := by simp [st00]
  refine ⟨hv, hb, by rw [e]; rfl, by rw [e2]; rfl, hsl, ?_, htl⟩
  rw [e, e2]
  exact ⟨hblk, World.ownsRow_nil _ _ _ _, World.ownsRow_nil _ _ _ _, Touch.refl _ _, Nat.lt_succ_self _, hV.symm⟩
theorem OI.size {V w1 : World} {ob base : Nat} {bs cn rf : Int} {S : List Nat} {D : List Int} {A1 A2 : Option Addr} {c1 c2 : Nat} {p : Addr} {u : Value} (h : OI V (w1.setCell p u) ob base bs cn rf S D A1 c1 A2 c2) : base ≤ w1.heap.size := by
  have h1 := h.touch.size
  rw [h.hi]
  simpa [World.setCell] using h1
theorem LI.skip {V U w4 : World} {F : Nat → Int} {its : List It} {ob s sl : Nat} {bs cn rf : Int} {nn a : Nat} {st : St} {A1 : Option Addr} {c1 : Nat} {A2 : Option Addr} {c2 sn dn gg cap : Nat} {v bt : Int} {y : It} (h : LI V U F its ob s sl bs cn rf nn a st A1 c1 A2 c2 sn dn v bt) (hy : its[a]? = some y) (hne : y.n ≠ nn) (hup : Up It.n its) (hF : (∀ z ∈ its, z.n ≠ nn) → F nn = -1) (hle : nn ≤ sl)
    (hoi : OI V w4 ob (ob + 1) bs cn rf ((st.S ++ List.replicate (nn - st.q) 0) ++ [0]) st.D (some ⟨gg, 0, none⟩) cap A2 c2) : LI V w4 F its ob s sl bs cn rf (nn + 1) a st (some ⟨gg, 0, none⟩) cap A2 c2 (sn + 1) dn (v + 1) bt := by
  obtain ⟨_, htl⟩ := h.tl.miss hy hne hup hF
  have hq := h.tl.q
  have e : (st.S ++ List.replicate (nn - st.q) 0) ++ [0] = st.S ++ List.replicate (nn + 1 - st.q) 0 := by rw [show nn + 1 - st.q = (nn - st.q) + 1 by omega, List.replicate_succ', List.append_assoc]
  refine ⟨by have := h.hv; omega, h.hb, ?_, h.hd, by omega, by rw [← e]; exact hoi, htl⟩
  rw [← e, List.length_append, h.hs]
  rfl
theorem LI.take {V U w4 : World} {F : Nat → Int} {its : List It} {ob s sl : Nat} {bs cn rf : Int} {nn a : Nat} {st : St} {A1 A3 : Option Addr} {c1 : Nat} {A2 A4 : Option Addr} {c2 c3 c4 sn dn : Nat} {v bt t1 dd : Int} {d : Nat} {y : It} (h : LI V U F its ob s sl bs cn rf nn a st A1 c1 A2 c2 sn dn v bt) (hy : its[a]? = some y) (he : y.n = nn) (hup : Up It.n its) (hF : F nn = t1) (h0 : 0 ≤ t1) (hle : nn ≤ sl) (hdd : t1 - bt = dd) (hfit : fitsD dd) (hsy : symOf dd = d)
    (hoi : OI V w4 ob (ob + 1) bs cn rf ((st.S ++ List.replicate (nn - st.q) 0) ++ [d]) (st.D ++ [dd]) A3 c3 A4 c4) : LI V w4 F its ob s sl bs cn rf (nn + 1) (a + 1) (nextSt F nn st) A3 c3 A4 c4 (sn + 1) (dn + 1) (v + 1) t1 := by
  have hb := h.hb
  have hdt : F nn - st.t = dd := by rw [hF, ← hb]; exact hdd
  have htl := h.tl.hit hy he hup (by rw [hF]; exact h0) (by rw [hdt]; exact hfit)
  have e : (nextSt F nn st).S ++ List.replicate (nn + 1 - (nextSt F nn st).q) 0 = (st.S ++ List.replicate (nn - st.q) 0) ++ [d] := by
    simp only [nextSt, Nat.sub_self, List.replicate_zero, List.append_nil, hdt, hsy]
  have e2 : (nextSt F nn st).D = st.D ++ [dd] := by simp only [nextSt, hdt]
  refine ⟨by have := h.hv; omega, hF.symm, ?_, ?_, by omega, by rw [e, e2]; exact hoi, htl⟩
  · rw [e, List.length_append, h.hs]
    rfl
  · rw [e2, List.length_append, h.hd]
    rfl
theorem up_le {its : List It} {y0 yl : It} {l : Nat} (hup : Up It.n its) (h0 : its[0]? = some y0) (hl : its[l]? = some yl) : y0.n ≤ yl.n := by
  obtain ⟨h1, e1⟩ := List.getElem?_eq_some_iff.1 h0
  obtain ⟨h2, e2⟩ := List.getElem?_eq_some_iff.1 hl
  rcases Nat.eq_zero_or_pos l with hz | hz
  · subst hz
    rw [← e1, ← e2]
    exact Nat.le_refl _
  · have h3 := List.pairwise_iff_getElem.1 hup 0 l h1 h2 hz
    rw [e1, e2] at h3
    omega
/-- In the first loop. -/
structure QI (W1 wr : World) (g k : Nat) (xs : List Nat) (ts : List Int) (its : List It) (A : Option Addr) (c : Nat) : Prop where
  sq : SQ g wr g its A c
  pq : PQ xs k its
  good : ∀ t ∈ ts.take k, goodT t
  bel : Below g W1 wr
theorem QI.next {W1 wr w2 : World} {g k x : Nat} {t : Int} {xs : List Nat} {ts : List Int} {its : List It} {A : Option Addr} {c : Nat} {v : Ending} (h : QI W1 wr g k xs ts its A c) (hd : xs.Nodup) (hx : xs[k]? = some x) (ht : ts[k]? = some t) (hg : goodT t) (hp : SPushPost g g its ⟨x, k⟩ wr v w2) :
    v = .returned (.tuple #[]) ∧ ∃ its' A' c', QI W1 w2 g (k + 1) xs ts its' A' c' := by
  obtain ⟨rfl, i, A', c', hi, h1, h2, hsq, hb⟩ := hp
  refine ⟨rfl, _, A', c', hsq, h.pq.push hd hx hi h1 h2, fun u hu => ?_, h.bel.trans hb⟩
  rw [List.take_add_one, ht] at hu
  rcases List.mem_append.1 hu with hu | hu
  · exact h.good u hu
  · simp only [Option.toList_some, List.mem_singleton] at hu
    subst hu
    exact hg

set_option maxRecDepth 1000000 in
set_option maxHeartbeats 4000000 in
theorem sfb_any (n c m d B : Nat) (A Q : Option Addr) (xs : List Nat) (ts : List Int) (w : World) (hA : Reads w B 1 A n (I64n xs)) (hQ : Reads w B 1 Q m (i64s ts)) (hB : B ≤ w.heap.size) (hn : n ≤ 200) (hnc : n ≤ c) (hm : m ≤ 9223372036854775807) (hxs : ∀ x ∈ xs, x ≤ 140737488350000) :
    Calls Try.prog 28 #[.slice A n c, .slice Q m d] w (SFPost xs ts w) := by
  have hlen : xs.length = n := by simpa [I64n] using hA.1
  have hlen2 : ts.length = m := by simpa [i64s] using hQ.1
  have HA := Lib.hid hA
  have HQ := Lib.hid hQ
  have HXS := Lib.hid hxs
  have HL := Lib.hid hlen
  have HL2 := Lib.hid hlen2
  clear hA hQ hxs hlen hlen2
  obtain ⟨W1, hW1⟩ : ∃ W1, w.alloc (.cells #[.int .i64 0, .int .i64 0, .int .u32 0, .slice none 0 0, .slice none 0 0] 68) = W1 := ⟨_, rfl⟩
  obtain ⟨rb, hrb⟩ : ∃ rb, w.heap.size = rb := ⟨_, rfl⟩
  have b1 : Blk W1 rb 68 #[.int .i64 0, .int .i64 0, .int .u32 0, .slice none 0 0, .slice none 0 0] := by
    rw [← hW1, ← hrb]
    exact Blk.new w 68 _
  have HT1 : Hid (Touch Nowhere w W1) := by
    show Touch Nowhere w W1
    rw [← hW1]
    exact (Touch.refl _ w).alloc _
  have q0 := b1.cell 0
  have q1 := b1.cell 1
  have q2 := b1.cell 2
  have q3 := b1.cell 3
  have q4 := b1.cell 4
  have f0 := b1.free 0
  have f1 := b1.free 1
  have f2 := b1.free 2
  have f3 := b1.free 3
  have f4 := b1.free 4
  simp at q0 q1 q2 q3 q4
  have HNO : Hid (SFPost xs ts w (.returned (.tuple #[.agg #[.int .i64 0, .int .i64 0, .int .u32 0, .slice none 0 0, .slice none 0 0], .bool false])) W1) := sf_no (HT1.out.below (Nat.le_refl _) fun _ _ h => h)
  have HW1 := Lib.hid hW1
  have HRB := Lib.hid hrb
  have B1 := Lib.hid b1
  clear hW1 hrb b1
  have HST : Hid (∀ W2, Touch Nowhere w W2 → Below w.heap.size w (((((W2.setCell ⟨rb, 0, none⟩ (.int .i64 0)).setCell ⟨rb, 1, none⟩ (.int .i64 0)).setCell ⟨rb, 2, none⟩ (.int .u32 0)).setCell ⟨rb, 3, none⟩ (.slice none 0 0)).setCell ⟨rb, 4, none⟩ (.slice none 0 0))) := by
    intro W2 ht
    have hr := HRB.out
    exact (((((ht.setCell (p := ⟨rb, 0, none⟩) (fun h => by have h1 : rb < w.heap.size := h; omega) _).setCell (p := ⟨rb, 1, none⟩) (fun h => by have h1 : rb < w.heap.size := h; omega) _).setCell (p := ⟨rb, 2, none⟩) (fun h => by have h1 : rb < w.heap.size := h; omega) _).setCell (p := ⟨rb, 3, none⟩) (fun h => by have h1 : rb < w.heap.size := h; omega) _).setCell (p := ⟨rb, 4, none⟩) (fun h => by have h1 : rb < w.heap.size := h; omega) _).below (Nat.le_refl _) fun _ _ h => h
  go_enter Try.func28, Try.ntmps28
  go_upto_region 1 with fail
  rw [HW1.out, HRB.out]
  by_cases hn0 : n = 0
  · go_wp2_with fail
    refine bodyPost_ret (v := .tuple #[.agg #[.int .i64 0, .int .i64 0, .int .u32 0, .slice none 0 0, .slice none 0 0], .bool false]) (by simp [results, Try.results28, go_sem, q0, q1, q2, q3, q4]) rfl (sf_no (HST.out W1 HT1.out))
  have hn1 : ((n : Int) == 0) = false := by simp; omega
  by_cases hnm : n = m
  · obtain rfl : n = m := hnm
    have hints : Reads W1 B 1 A n ((xs.map fun q : Nat => (q : Int)).map (Value.int .i64)) := by
      have h := HA.out.touch HT1.out hB (fun _ _ h => h)
      have e : (xs.map fun q : Nat => (q : Int)).map (Value.int .i64) = I64n xs := by simp [I64n]
      rw [e]
      exact h
    have HAP := Lib.hid (apart_any n c B A _ W1 hints (by omega) hnc)
    clear hints
    go_wp2_with fail
    refine HAP.out.mono ?_
    rintro v W' ⟨hw, b, rfl, hd⟩
    obtain rfl := hw.symm
    clear hw HAP
    cases b with
    | false =>
      clear hd
      go_wp2_with fail
      refine bodyPost_ret (v := .tuple #[.agg #[.int .i64 0, .int .i64 0, .int .u32 0, .slice none 0 0, .slice none 0 0], .bool false]) (by simp [results, Try.results28, go_sem, q0, q1, q2, q3, q4]) rfl (sf_no (HST.out W1 HT1.out))
    | true =>
      have hnd := distinct_nodup (hd rfl)
      have HND := Lib.hid hnd
      clear hd hnd
      obtain ⟨g, hg⟩ : ∃ g, W1.heap.size = g := ⟨_, rfl⟩
      have HQ0 : Hid (QI W1 (W1.alloc (.cells #[.slice none 0 0] 52)) g 0 xs ts [] none 0) := by
        refine ⟨⟨?_, OwnsAt.nil _ _ _ _, Nat.le_refl _⟩, PQ.nil _, by simp, (Below.refl g W1).alloc (by omega) _⟩
        rw [← hg]
        exact Blk.new W1 52 _
      have HG := Lib.hid hg
      have hgr : rb < g := by rw [← hg]; exact B1.out.lt
      clear q0 q1 q2 q3 q4 f0 f1 f2 f3 f4 HNO
      go_upto_region 4 with fail
      clear hg
      go_wp2_with fail
      go_loopw [37] (fun u wr => ∃ (k : Nat) (its : List It) (Aq : Option Addr) (cq : Nat), k ≤ n ∧ u = .int .i64 (k : Int) ∧ Hid (QI W1 wr g k xs ts its Aq cq)) (fun u _ => n - (intOf u).toNat)
      case atStart => exact ⟨0, [], none, 0, Nat.zero_le _, rfl, HQ0⟩
      case round =>
        obtain ⟨k, its, Aq, cq, hk, rfl, hqi⟩ := hrel
        have hbk := B1.out.below hqi.out.bel hgr
        have q0 := hbk.cell 0
        have q1 := hbk.cell 1
        have q2 := hbk.cell 2
        have q3 := hbk.cell 3
        have q4 := hbk.cell 4
        have f0 := hbk.free 0
        have f1 := hbk.free 1
        have f2 := hbk.free 2
        have f3 := hbk.free 3
        have f4 := hbk.free 4
        simp at q0 q1 q2 q3 q4
        have HTW : Hid (Touch Nowhere w wr) := HT1.out.trans (Touch.ofBelow (S := Nowhere) hqi.out.bel fun i hi h => by have := HG.out; omega) fun _ _ h => h
        clear hbk
        by_cases hlt : k < n
        · obtain ⟨x, hx⟩ : ∃ x, xs[k]? = some x := ⟨_, List.getElem?_eq_getElem (by rw [HL.out]; exact hlt)⟩
          obtain ⟨t, ht⟩ : ∃ t, ts[k]? = some t := ⟨_, List.getElem?_eq_getElem (by rw [HL2.out]; exact hlt)⟩
          obtain ⟨pa, u1, rfl, _, hu1, y1⟩ := (HA.out.touch HTW.out hB (fun _ _ h => h)).at1 hlt
          obtain ⟨qa, u2, rfl, _, hu2, y2⟩ := (HQ.out.touch HTW.out hB (fun _ _ h => h)).at1 hlt
          rw [I64n, List.getElem?_map, hx] at hu1
          rw [i64s, List.getElem?_map, ht] at hu2
          simp only [Option.map_some, Option.some.injEq] at hu1 hu2
          subst hu1 hu2
          have HX := Lib.hid hx
          have HT := Lib.hid ht
          clear hx ht
          by_cases h1 : t < 0
          · go_wp2_with fail
            refine bodyPost_ret (v := .tuple #[.agg #[.int .i64 0, .int .i64 0, .int .u32 0, .slice none 0 0, .slice none 0 0], .bool false]) (by simp [results, Try.results28, go_sem, q0, q1, q2, q3, q4]) rfl (sf_no (HST.out wr HTW.out))
          by_cases h2 : 1073741824000 ≤ t
          · go_wp2_with fail
            refine bodyPost_ret (v := .tuple #[.agg #[.int .i64 0, .int .i64 0, .int .u32 0, .slice none 0 0, .slice none 0 0], .bool false]) (by simp [results, Try.results28, go_sem, q0, q1, q2, q3, q4]) rfl (sf_no (HST.out wr HTW.out))
          obtain ⟨r, hr⟩ : ∃ r, Int.tmod t 250 = r := ⟨_, rfl⟩
          have hr2 : t % 250 = r := by rw [← hr, Int.tmod_eq_emod_of_nonneg (by omega)]
          have HR2 := Lib.hid hr2
          clear hr2
          by_cases h3 : r = 0
          · subst h3
            have hgood : goodT t := ⟨by omega, HR2.out, by omega⟩
            have hw32 : IntKind.u32.wrap (k : Int) = (k : Int) := by rw [IntKind.wrap_u32]; omega
            have HSP := Lib.hid (spush_any g g cq Aq its ⟨x, k⟩ wr hqi.out.sq (by have := hqi.out.pq.len; omega) (by have := hqi.out.bel.size; have := HG.out; omega))
            have HGD := Lib.hid hgood
            clear hgood
            go_wp2_with fail
            refine HSP.out.mono ?_
            intro v6 w6 hp6
            obtain ⟨rfl, its', A', c', hqi'⟩ := hqi.out.next HND.out HX.out HT.out HGD.out hp6
            have HQ6 := Lib.hid hqi'
            clear hp6 hqi' q0 q1 q2 q3 q4 f0 f1 f2 f3 f4 y1 y2
            go_wp2_with fail
            exact ⟨⟨k + 1, its', A', c', by omega, by go_num, HQ6.out⟩, by simp [intOf]; omega⟩
          · go_wp2_with fail
            refine bodyPost_ret (v := .tuple #[.agg #[.int .i64 0, .int .i64 0, .int .u32 0, .slice none 0 0, .slice none 0 0], .bool false]) (by simp [results, Try.results28, go_sem, q0, q1, q2, q3, q4]) rfl (sf_no (HST.out wr HTW.out))
        · obtain rfl : k = n := by omega
          have hil := hqi.out.pq.len
          obtain ⟨l, hl⟩ : ∃ l, l + 1 = k := ⟨k - 1, by omega⟩
          have hkl : (k : Int) - 1 = (l : Int) := by omega
          have hlk : (l : Int) < (k : Int) := by omega
          have hk0 : (0 : Int) < (k : Int) := by omega
          have hk00 : 0 < k := by omega
          have hl0 : (0 : Int) ≤ (l : Int) := by omega
          have hlk2 : l < k := by omega
          have hkw : IntKind.i64.wrap ((k : Int) - 1) = (l : Int) := by rw [hkl]; exact IntWalk.i64_in _ (by omega)
          have hkw2 : wrap64 ((k : Int) - 1) = (l : Int) := by rw [hkl]; unfold wrap64; omega
          clear hkl
          obtain ⟨y0, hy0⟩ : ∃ y, its[0]? = some y := ⟨_, List.getElem?_eq_getElem (by omega)⟩
          obtain ⟨yl, hyl⟩ : ∃ y, its[l]? = some y := ⟨_, List.getElem?_eq_getElem (by omega)⟩
          have hown := hqi.out.sq.own
          have hhd := hqi.out.sq.head
          rw [hil] at hown hhd
          obtain ⟨g2, off, rfl, hg2, hgg2, hcell⟩ := hown.lits (by omega)
          obtain ⟨i1, i2⟩ := itCells_at hy0
          obtain ⟨i3, i4⟩ := itCells_at hyl
          have c0 := hcell _ _ i1
          have c1 := hcell _ _ i2
          have c2 := hcell _ _ i3
          have c3 := hcell _ _ i4
          have cg := hhd.cell 0
          simp only [Nat.zero_mul, Nat.add_zero, Nat.zero_add, ← Nat.add_assoc] at c0 c1 c2 c3
          simp at cg
          have HS : Hid (∀ W', Touch Nowhere wr W' → (W'.cell? ⟨g, 0, none⟩ = some (.slice (some ⟨g2, off, none⟩) k cq) ∧ W'.cell? ⟨g2, off, none⟩ = some (.int .i64 (y0.n : Int)) ∧ W'.cell? ⟨g2, off + 1, none⟩ = some (.int .u32 (y0.t : Int)) ∧
              W'.cell? ⟨g2, off + l * 2, none⟩ = some (.int .i64 (yl.n : Int)) ∧ W'.cell? ⟨g2, off + l * 2 + 1, none⟩ = some (.int .u32 (yl.t : Int)))) := by
            intro W' ht
            have hk : ∀ o, W'.cell? ⟨g2, o, none⟩ = wr.cell? ⟨g2, o, none⟩ := fun o => ht.cell (p := ⟨g2, o, none⟩) hg2 (fun h => h)
            simp only [hk]
            exact ⟨(ht.cell (p := ⟨g, 0, none⟩) hhd.lt (fun h => h)).trans cg, c0, c1, c2, c3⟩
          have HY := Lib.hid (And.intro hy0 hyl)
          have HIL := Lib.hid hil
          have HLK := Lib.hid hl
          have HC : Hid (∀ j u, (itCells its)[j]? = some u → wr.cell? ⟨g2, off + j, none⟩ = some u) := hcell
          have HG2 : Hid (g2 < wr.heap.size ∧ wr.cell? ⟨g, 0, none⟩ = some (.slice (some ⟨g2, off, none⟩) k cq) ∧ g < wr.heap.size) := ⟨hg2, cg, hhd.lt⟩
          clear hil hl hy0 hyl hown hhd hcell i1 i2 i3 i4
          go_upto_region 11 with fail
          apply wp_two (fun f z W' => Blk W' f 55 #[.int .i64 (y0.n : Int), .int .u32 (y0.t : Int)] ∧ Blk W' z 55 #[.int .i64 (yl.n : Int), .int .u32 (yl.t : Int)] ∧ Touch Nowhere wr W' ∧ wr.heap.size ≤ f ∧ wr.heap.size ≤ z)
          · go_region_held3 (fun W' => W'.cell? ⟨g, 0, none⟩ = some (.slice (some ⟨g2, off, none⟩) k cq) ∧ W'.cell? ⟨g2, off, none⟩ = some (.int .i64 (y0.n : Int)) ∧ W'.cell? ⟨g2, off + 1, none⟩ = some (.int .u32 (y0.t : Int)) ∧
              W'.cell? ⟨g2, off + l * 2, none⟩ = some (.int .i64 (yl.n : Int)) ∧ W'.cell? ⟨g2, off + l * 2 + 1, none⟩ = some (.int .u32 (yl.t : Int))) (first | exact HS.out _ ((Touch.refl Nowhere wr).drew) | exact HS.out _ (((Touch.refl Nowhere wr).alloc _).drew) | exact HS.out _ ((((Touch.refl Nowhere wr).alloc _).alloc _).drew)) (fail)
            · refine ⟨wr.heap.size, wr.heap.size + 1, ⟨((Blk.new wr 55 _).alloc _).drew, (blk_mk (by simp)).drew, (((Touch.refl Nowhere wr).alloc _).alloc _).drew, Nat.le_refl _, Nat.le_succ _⟩, ?_⟩
              generalize wr.heap.size + 1 = z9
              generalize wr.heap.size = f9
              exact rfl
            · exact ⟨wr.heap.size + 1, wr.heap.size, ⟨(blk_mk (by simp)).drew, ((Blk.new wr 55 _).alloc _).drew, (((Touch.refl Nowhere wr).alloc _).alloc _).drew, Nat.le_succ _, Nat.le_refl _⟩, rfl⟩
          intro f z W' hF
          obtain ⟨bf, bz, tF, hfs, hzs⟩ := hF
          have e0 := bf.cell 0
          have e1 := bf.cell 1
          have e2 := bz.cell 0
          simp at e0 e1 e2
          have hbk := B1.out.below (hqi.out.bel) hgr
          have hbk2 := hbk.touch tF (fun h => h)
          have q0 := hbk2.cell 0
          have q1 := hbk2.cell 1
          have q2 := hbk2.cell 2
          have q3 := hbk2.cell 3
          have q4 := hbk2.cell 4
          have f0 := hbk2.free 0
          have f1 := hbk2.free 1
          have f2 := hbk2.free 2
          have f3 := hbk2.free 3
          have f4 := hbk2.free 4
          simp at q0 q1 q2 q3 q4
          have HT3 : Hid (Touch Nowhere w W') := HTW.out.trans tF fun _ _ h => h
          have HBF := Lib.hid (And.intro bf (And.intro bz tF))
          obtain ⟨p1, p2⟩ := hqi.out.pq.mem y0 (List.mem_of_getElem? HY.out.1)
          obtain ⟨t0, ht0⟩ : ∃ t, ts[y0.t]? = some t := ⟨_, List.getElem?_eq_getElem (by rw [HL2.out]; exact p1)⟩
          obtain ⟨qa, u2, rfl, _, hu2, y2⟩ := (HQ.out.touch HT3.out hB (fun _ _ h => h)).at1 p1
          rw [i64s, List.getElem?_map, ht0] at hu2
          simp only [Option.map_some, Option.some.injEq] at hu2
          subst hu2
          have hgd : goodT t0 := hqi.out.good t0 (by rw [List.take_of_length_le (by rw [HL2.out]; exact Nat.le_refl _)]; exact List.mem_of_getElem? ht0)
          obtain ⟨N0, hN0⟩ : ∃ N0 : Int, (y0.n : Int) = N0 := ⟨_, rfl⟩
          obtain ⟨NL, hNL⟩ : ∃ NL : Int, (yl.n : Int) = NL := ⟨_, rfl⟩
          have HN := Lib.hid (And.intro hN0 hNL)
          rw [hN0] at e0
          rw [hNL] at e2
          clear bf bz tF hbk hbk2 p2 hN0 hNL
          obtain ⟨D, hD⟩ : ∃ D : Int, NL - N0 = D := ⟨_, rfl⟩
          have hbnd : 0 ≤ N0 ∧ N0 ≤ 140737488350000 ∧ N0 ≤ NL ∧ NL ≤ 140737488350000 := by
            have h1 := HXS.out y0.n (List.mem_of_getElem? (hqi.out.pq.mem y0 (List.mem_of_getElem? HY.out.1)).2)
            have h2 := HXS.out yl.n (List.mem_of_getElem? (hqi.out.pq.mem yl (List.mem_of_getElem? HY.out.2)).2)
            obtain ⟨h3, h4⟩ := HN.out
            have h5 : y0.n ≤ yl.n := up_le hqi.out.pq.up HY.out.1 HY.out.2
            omega
          have hsub : IntKind.i64.wrap (NL - N0) = D := by rw [hD]; exact IntWalk.i64_in _ (by omega)
          have hsub2 : wrap64 (NL - N0) = D := by rw [hD]; unfold wrap64; omega
          have HBND := Lib.hid hbnd
          have HD := Lib.hid hD
          clear hbnd hD
          by_cases h200 : 200 ≤ D
          · go_wp2_with fail
            refine bodyPost_ret (v := .tuple #[.agg #[.int .i64 0, .int .i64 0, .int .u32 0, .slice none 0 0, .slice none 0 0], .bool false]) (by simp [results, Try.results28, go_sem, q0, q1, q2, q3, q4]) rfl (sf_no (HST.out W' HT3.out))
          obtain ⟨rf, hrf⟩ : ∃ rf : Int, t0 / 64000 = rf := ⟨_, rfl⟩
          have hrf2 : 0 ≤ rf ∧ rf < 16777216 := by unfold goodT at hgd; omega
          have hquo : Int.tdiv t0 64000 = rf := by rw [Int.tdiv_eq_ediv_of_nonneg (by unfold goodT at hgd; omega), hrf]
          obtain ⟨b0, hb0⟩ : ∃ b0 : Int, rf * 64000 = b0 := ⟨_, rfl⟩
          have hmul : IntKind.i64.wrap (rf * 64000) = b0 := by rw [hb0]; exact IntWalk.i64_in _ (by omega)
          have hmul2 : wrap64 (rf * 64000) = b0 := by rw [hb0]; unfold wrap64; omega
          have h32 : IntKind.u32.wrap rf = rf := by rw [IntKind.wrap_u32]; omega
          have h32b : rf % 4294967296 = rf := by omega
          have h64b : wrap64 rf = rf := by unfold wrap64; omega
          have e0a : ∀ o, (W'.alloc o).cell? ⟨f, 0, none⟩ = some (.int .i64 N0) := fun o => ((HBF.out.1.alloc o).cell 0).trans (by simp [HN.out.1])
          have e2a : ∀ o, (W'.alloc o).cell? ⟨z, 0, none⟩ = some (.int .i64 NL) := fun o => ((HBF.out.2.1.alloc o).cell 0).trans (by simp [HN.out.2])
          have hand : bits .and .u32 rf 16777215 = rf := mask24 hrf2.1 hrf2.2
          obtain ⟨s16, hs16⟩ : ∃ s16 : Int, N0 % 65536 = s16 := ⟨_, rfl⟩
          have h16 : IntKind.u16.wrap N0 = s16 := by rw [IntKind.wrap_u16]; exact hs16
          have h64 : IntKind.i64.wrap s16 = s16 := IntWalk.i64_in _ (by omega)
          have hD1 : IntKind.i64.wrap (D + 1) = D + 1 := IntWalk.i64_in _ (by have := HBND.out; have := HD.out; omega)
          have hD2 : wrap64 (D + 1) = D + 1 := by have := HBND.out; have := HD.out; unfold wrap64; omega
          have HR := Lib.hid (And.intro hrf (And.intro hrf2 (And.intro hb0 hs16)))
          have HGD := Lib.hid hgd
          have HT0 := Lib.hid ht0
          clear hrf hrf2 hb0 hs16 hgd ht0 q0 q1 q2 q3 q4 f0 f1 f2 f3 f4
          go_wp2_with fail
          obtain ⟨ob, hob⟩ : ∃ ob, W'.heap.size = ob := ⟨_, rfl⟩
          obtain ⟨V, hV⟩ : ∃ V, W'.alloc (.cells #[.int .i64 s16, .int .i64 (D + 1), .int .u32 rf, .slice none 0 0, .slice none 0 0] 68) = V := ⟨_, rfl⟩
          have hVs : V.heap.size = ob + 1 := by rw [← hV, ← hob]; simp
          have HKP : Hid (∀ U, Touch (· = ob) V U → Touch Nowhere wr U) := by
            intro U hU
            have h1 : Touch Nowhere wr V := by rw [← hV]; exact HBF.out.2.2.alloc _
            exact h1.trans hU fun i hi h => by have h2 := HBF.out.2.2.size; have h3 : i = ob := h; omega
          have HFZ : Hid (∀ U, Touch (· = ob) V U → U.cell? ⟨f, 0, none⟩ = some (.int .i64 N0) ∧ U.cell? ⟨z, 0, none⟩ = some (.int .i64 NL)) := by
            intro U hU
            have h1 : Blk V f 55 #[.int .i64 (y0.n : Int), .int .u32 (y0.t : Int)] := by rw [← hV]; exact HBF.out.1.alloc _
            have h2 : Blk V z 55 #[.int .i64 (yl.n : Int), .int .u32 (yl.t : Int)] := by rw [← hV]; exact HBF.out.2.1.alloc _
            have l1 := HBF.out.1.lt
            have l2 := HBF.out.2.1.lt
            exact ⟨((h1.touch hU (fun h => by have h3 : f = ob := h; omega)).cell 0).trans (by simp [HN.out.1]), ((h2.touch hU (fun h => by have h3 : z = ob := h; omega)).cell 0).trans (by simp [HN.out.2])⟩
          obtain ⟨t9, ht9, hFt⟩ := hqi.out.pq.arr (by rw [HL.out, HL2.out]) HND.out (List.mem_of_getElem? HY.out.1)
          have hF0 : recF (xs.zip ts) y0.n = t0 := by rw [hFt]; rw [HT0.out] at ht9; injection ht9 with ht9; exact ht9.symm
          have HF00 := Lib.hid hF0
          have HBOB : Hid (Blk V ob 68 #[.int .i64 s16, .int .i64 (D + 1), .int .u32 rf, .slice none 0 0, .slice none 0 0]) := by
            show Blk V ob 68 _
            rw [← hV, ← hob]
            exact Blk.new W' 68 _
          have HLI0 : Hid (LI V V (recF (xs.zip ts)) its ob y0.n yl.n s16 (D + 1) rf y0.n 0 (st00 y0.n (recF (xs.zip ts) y0.n)) none 0 none 0 0 0 N0 b0) := by
            refine LI.zero HBOB.out hVs HN.out.1.symm ?_ ?_ (TL.zero hqi.out.pq.up HY.out.1 rfl)
            · rw [hF0]
              simp only [st00]
              rw [HR.out.1, HR.out.2.2.1]
            · have := up_le hqi.out.pq.up HY.out.1 HY.out.2
              omega
          have HBV : Hid (∀ U, Touch (· = ob) V U → Blk U rb 68 #[.int .i64 0, .int .i64 0, .int .u32 0, .slice none 0 0, .slice none 0 0]) := by
            intro U hU
            exact (B1.out.below hqi.out.bel hgr).touch (HKP.out U hU) (fun h => h)
          obtain ⟨i3, hi3, hz30, hz31, hz32⟩ := info_parts info_intK
          obtain ⟨i2, hi2, hz20, hz21, hz22⟩ := info_parts info_i64K
          have HVS := Lib.hid hVs
          rw [hV, hob]
          clear hV hob hVs e0 e1 e2 y2 e0a e2a hsub hsub2 hquo hmul hmul2 h32 h32b h64b hand h16 h64 hD1 hD2 ht9 hFt hF0 c0 c1 c2 c3 cg
          go_loopw [13, 14, 15] (fun v13 v14 v15 U => ∃ (nn a : Nat) (st : St) (A1 : Option Addr) (c1 : Nat) (A2 : Option Addr) (c2 sn dn : Nat) (v bt : Int), v13 = .int .i64 bt ∧ v14 = .int .i64 (a : Int) ∧ v15 = .int .i64 v ∧ U.cell? ⟨ob, 3, none⟩ = some (.slice A1 sn c1) ∧ U.cell? ⟨ob, 4, none⟩ = some (.slice A2 dn c2) ∧
            Hid (LI V U (recF (xs.zip ts)) its ob y0.n yl.n s16 (D + 1) rf nn a st A1 c1 A2 c2 sn dn v bt)) (fun _ _ v15 _ => (NL + 1 - intOf v15).toNat)
          case atStart => exact ⟨_, 0, _, none, 0, none, 0, 0, 0, N0, b0, rfl, rfl, rfl, HBOB.out.cell 3, HBOB.out.cell 4, HLI0.out⟩
          case round =>
            obtain ⟨nn, a, st, A1, c1, A2, c2, sn, dn, v, bt, rfl, rfl, rfl, x3, x4, HLI⟩ := hrel
            obtain ⟨e0, e2⟩ := HFZ.out wr HLI.out.oi.touch
            have HKW := Lib.hid (HKP.out wr HLI.out.oi.touch)
            by_cases hle : v ≤ NL
            · have hnn : nn ≤ yl.n := by have h1 := HLI.out.hv; have h2 := HN.out.2; omega
              have HLE := Lib.hid hnn
              have hal : a < its.length := by
                rcases Nat.lt_or_ge a its.length with h | h
                · exact h
                · have h1 := HLI.out.tl.lo yl (by rw [List.take_of_length_le h]; exact List.mem_of_getElem? HY.out.2)
                  omega
              obtain ⟨y, hy⟩ : ∃ y, its[a]? = some y := ⟨_, List.getElem?_eq_getElem hal⟩
              rw [HIL.out] at hal
              obtain ⟨j1, j2⟩ := itCells_at hy
              have d1 := (HKW.out.cell (p := ⟨g2, off + a * 2, none⟩) HG2.out.1 (fun h => h)).trans (HC.out _ _ j1)
              have d2 := (HKW.out.cell (p := ⟨g2, off + (a * 2 + 1), none⟩) HG2.out.1 (fun h => h)).trans (HC.out _ _ j2)
              rw [← Nat.add_assoc] at d2
              have dg := (HKW.out.cell (p := ⟨g, 0, none⟩) HG2.out.2.2 (fun h => h)).trans HG2.out.2.1
              have hak : (a : Int) < (k : Int) := by omega
              obtain ⟨yv, hyv⟩ : ∃ yv : Int, (y.n : Int) = yv := ⟨_, rfl⟩
              rw [hyv] at d1
              have HYV := Lib.hid hyv
              have HY2 := Lib.hid hy
              have hv1 : wrap64 (v + 1) = v + 1 := by have h1 := HLI.out.hv; have h2 := HBND.out; unfold wrap64; omega
              have hv2 : IntKind.i64.wrap (v + 1) = v + 1 := IntWalk.i64_in _ (by have h1 := HLI.out.hv; have h2 := HBND.out; omega)
              have hs0 : sn ≤ 400 := by
                have h1 := HLI.out.hs
                have h2 := HLI.out.tl.q
                have h3 := tl_len HLI.out.tl
                have h4 := HLI.out.le
                have h5 := HN.out
                have h6 := HD.out
                rw [List.length_append, List.length_replicate] at h1
                omega
              have hd0 : dn ≤ 400 := by
                have h1 := HLI.out.hd
                have h3 := tl_len2 HLI.out.tl
                have h4 := HLI.out.hs
                rw [List.length_append] at h4
                omega
              have hwz : ob + 1 ≤ wr.heap.size := by have := HLI.out.oi.touch.size; have := HVS.out; omega
              have HRW := Lib.hid (HLI.out.oi.rows HLI.out.hs HLI.out.hd)
              clear hy j1 j2 hyv hnn
              by_cases heq : yv = v
              · have HEQ : Hid (y.n = nn) := by have h1 := HYV.out; have h2 := HLI.out.hv; show y.n = nn; omega
                have hneb : (yv != v) = false := by simp [heq]
                obtain ⟨p3, _⟩ := hqi.out.pq.mem y (List.mem_of_getElem? HY2.out)
                obtain ⟨t1, ht1, hF1⟩ := hqi.out.pq.arr (by rw [HL.out, HL2.out]) HND.out (List.mem_of_getElem? HY2.out)
                have HTW2 : Hid (Touch Nowhere w wr) := HTW.out.trans HKW.out fun _ _ h => h
                obtain ⟨qb, u3, hqb, _, hu3, y2⟩ := (HQ.out.touch HTW2.out hB (fun _ _ h => h)).at1 p3
                injection hqb with hqb
                subst hqb
                rw [i64s, List.getElem?_map, ht1] at hu3
                simp only [Option.map_some, Option.some.injEq] at hu3
                subst hu3
                have hallg : ∀ t ∈ ts, goodT t := fun t ht => hqi.out.good t (by rw [List.take_of_length_le (by rw [HL2.out]; exact Nat.le_refl _)]; exact ht)
                have hgd1 := hallg t1 (List.mem_of_getElem? ht1)
                have hbt : 0 ≤ bt ∧ bt < 1073741824000 := by
                  rw [HLI.out.hb]
                  exact foldSt_t _ _ _ _ HLI.out.tl.fold (recF_good hallg (by rw [HL.out, HL2.out]) HND.out) (st00_t (recF_good hallg (by rw [HL.out, HL2.out]) HND.out) HGD.out.1 (by rw [HF00.out]))
                obtain ⟨dd, hdd⟩ : ∃ dd : Int, t1 - bt = dd := ⟨_, rfl⟩
                have w1 : wrap64 (t1 - bt) = dd := by rw [hdd]; unfold goodT at hgd1; unfold wrap64; omega
                have w2 : IntKind.i64.wrap (t1 - bt) = dd := by rw [hdd]; exact IntWalk.i64_in _ (by unfold goodT at hgd1; omega)
                have w3 : wrap64 (bt + dd) = t1 := by unfold goodT at hgd1; unfold wrap64; omega
                have w4 : IntKind.i64.wrap (bt + dd) = t1 := by rw [show bt + dd = t1 by omega]; exact IntWalk.i64_in _ (by unfold goodT at hgd1; omega)
                have HDD := Lib.hid hdd
                have HT1P : Hid (0 ≤ t1) := hgd1.1
                have HF1 : Hid (recF (xs.zip ts) nn = t1) := by show recF (xs.zip ts) nn = t1; rw [← HEQ.out]; exact hF1
                clear hdd hgd1 hallg hbt hF1 ht1
                have hbk3 := HBV.out wr HLI.out.oi.touch
                have q0 := hbk3.cell 0
                have q1 := hbk3.cell 1
                have q2 := hbk3.cell 2
                have q3 := hbk3.cell 3
                have q4 := hbk3.cell 4
                have f0 := hbk3.free 0
                have f1 := hbk3.free 1
                have f2 := hbk3.free 2
                have f3 := hbk3.free 3
                have f4 := hbk3.free 4
                simp at q0 q1 q2 q3 q4
                clear hbk3
                by_cases h1 : 0 ≤ dd
                · by_cases h2 : dd ≤ 63750
                  · clear q0 q1 q2 q3 q4 f0 f1 f2 f3 f4
                    have HSY : Hid (symOf dd = 1) := by show symOf dd = 1; unfold symOf; rw [if_pos ⟨h1, h2⟩]
                    go_wp2_with (first | (at_builtin; refine wpList_append_lies _ rfl _ _ _ rfl (ob + 1) 3 i3 _ 1 8 Try.underlying62 hi3 hz30 hz31 hz32 rfl (by decide) (.slice A1 sn c1) sn _ rfl (HRW.out.1.alloc _) ⟨wr.heap.size, 0, none⟩ 1 1 [.int .i64 ((1 : Nat) : Int)] rfl rfl (World.news_of_block (cs := #[.int .i64 ((1 : Nat) : Int)]) (t := 3) (fr := (0, 0)) (heap_alloc_new wr _)) (by simp [Value.oneCell']) (by omega) (by simp only [maxLen]; omega) (by omega) (by simp; omega) (wr.heap.size + 1) (by simp) ?_; intro gg cap w1 hown1 hgrow1 hat1 hlt1; obtain ⟨y3, z3, y4, z4, hoi1⟩ := HLI.out.oi.sym2 (d := 1) HLI.out.hs HLI.out.hd hown1 hgrow1; have HOI1 := Lib.hid hoi1; have hs1 : ob + 1 ≤ w1.heap.size := hoi1.size; clear hown1 hgrow1 hat1 hlt1 hoi1) | (at_builtin; refine wpList_append_lies _ rfl _ _ _ rfl (ob + 1) 2 i2 _ 1 8 Try.underlying23 hi2 hz20 hz21 hz22 rfl (by decide) (.slice A2 dn c2) dn _ rfl ((HOI1.out.rows rfl HLI.out.hd).2.alloc _) ⟨w1.heap.size, 0, none⟩ 1 1 [.int .i64 dd] rfl rfl (World.news_of_block (cs := #[.int .i64 dd]) (t := 2) (fr := (0, 0)) (heap_alloc_set w1 _ _ _)) (by simp [Value.oneCell']) (by omega) (by simp only [maxLen]; omega) (by omega) (by simp; omega) (w1.heap.size + 1) (by simp) ?_; intro g9 cap9 w9 hown9 hgrow9 hat9 hlt99; obtain ⟨y9, z9, hoi9⟩ := HOI1.out.time2 HLI.out.hd hown9 hgrow9; have HOI9 := Lib.hid hoi9; clear hown9 hgrow9 hat9 hlt99 hoi9))
                    have HL9 := Lib.hid (HLI.out.take HY2.out HEQ.out hqi.out.pq.up HF1.out HT1P.out HLE.out HDD.out (show fitsD dd from ⟨by omega, by omega⟩) HSY.out HOI9.out)
                    refine ⟨⟨nn + 1, a + 1, _, _, _, _, _, _, _, v + 1, t1, rfl, by go_num, rfl, ?_, ?_, HL9.out⟩, ?_⟩
                    · exact (HOI9.out.blk.cell 3).trans (by rw [List.length_append, HLI.out.hs]; rfl)
                    · exact (HOI9.out.blk.cell 4).trans (by rw [show (st.D ++ [dd]).length = dn + 1 by rw [List.length_append, HLI.out.hd]; rfl]; rfl)
                    · simp only [intOf]; omega
                  · have h3 : -8192000 ≤ dd := by omega
                    by_cases h4 : dd ≤ 8191750
                    · clear q0 q1 q2 q3 q4 f0 f1 f2 f3 f4
                      have HSY : Hid (symOf dd = 2) := by show symOf dd = 2; unfold symOf; rw [if_neg (by omega)]
                      go_wp2_with (first | (at_builtin; refine wpList_append_lies _ rfl _ _ _ rfl (ob + 1) 3 i3 _ 1 8 Try.underlying62 hi3 hz30 hz31 hz32 rfl (by decide) (.slice A1 sn c1) sn _ rfl (HRW.out.1.alloc _) ⟨wr.heap.size, 0, none⟩ 1 1 [.int .i64 ((2 : Nat) : Int)] rfl rfl (World.news_of_block (cs := #[.int .i64 ((2 : Nat) : Int)]) (t := 3) (fr := (0, 0)) (heap_alloc_new wr _)) (by simp [Value.oneCell']) (by omega) (by simp only [maxLen]; omega) (by omega) (by simp; omega) (wr.heap.size + 1) (by simp) ?_; intro gg cap w1 hown1 hgrow1 hat1 hlt1; obtain ⟨y3, z3, y4, z4, hoi1⟩ := HLI.out.oi.sym2 (d := 2) HLI.out.hs HLI.out.hd hown1 hgrow1; have HOI1 := Lib.hid hoi1; have hs1 : ob + 1 ≤ w1.heap.size := hoi1.size; clear hown1 hgrow1 hat1 hlt1 hoi1) | (at_builtin; refine wpList_append_lies _ rfl _ _ _ rfl (ob + 1) 2 i2 _ 1 8 Try.underlying23 hi2 hz20 hz21 hz22 rfl (by decide) (.slice A2 dn c2) dn _ rfl ((HOI1.out.rows rfl HLI.out.hd).2.alloc _) ⟨w1.heap.size, 0, none⟩ 1 1 [.int .i64 dd] rfl rfl (World.news_of_block (cs := #[.int .i64 dd]) (t := 2) (fr := (0, 0)) (heap_alloc_set w1 _ _ _)) (by simp [Value.oneCell']) (by omega) (by simp only [maxLen]; omega) (by omega) (by simp; omega) (w1.heap.size + 1) (by simp) ?_; intro g9 cap9 w9 hown9 hgrow9 hat9 hlt99; obtain ⟨y9, z9, hoi9⟩ := HOI1.out.time2 HLI.out.hd hown9 hgrow9; have HOI9 := Lib.hid hoi9; clear hown9 hgrow9 hat9 hlt99 hoi9))
                      have HL9 := Lib.hid (HLI.out.take HY2.out HEQ.out hqi.out.pq.up HF1.out HT1P.out HLE.out HDD.out (show fitsD dd from ⟨by omega, by omega⟩) HSY.out HOI9.out)
                      refine ⟨⟨nn + 1, a + 1, _, _, _, _, _, _, _, v + 1, t1, rfl, by go_num, rfl, ?_, ?_, HL9.out⟩, ?_⟩
                      · exact (HOI9.out.blk.cell 3).trans (by rw [List.length_append, HLI.out.hs]; rfl)
                      · exact (HOI9.out.blk.cell 4).trans (by rw [show (st.D ++ [dd]).length = dn + 1 by rw [List.length_append, HLI.out.hd]; rfl]; rfl)
                      · simp only [intOf]; omega
                    · go_wp2_with fail
                      refine bodyPost_ret (v := .tuple #[.agg #[.int .i64 0, .int .i64 0, .int .u32 0, .slice none 0 0, .slice none 0 0], .bool false]) (by simp [results, Try.results28, go_sem, q0, q1, q2, q3, q4]) rfl (sf_no (HST.out wr HTW2.out))
                · by_cases h3 : -8192000 ≤ dd
                  · have h4 : dd ≤ 8191750 := by omega
                    clear q0 q1 q2 q3 q4 f0 f1 f2 f3 f4
                    have HSY : Hid (symOf dd = 2) := by show symOf dd = 2; unfold symOf; rw [if_neg (by omega)]
                    go_wp2_with (first | (at_builtin; refine wpList_append_lies _ rfl _ _ _ rfl (ob + 1) 3 i3 _ 1 8 Try.underlying62 hi3 hz30 hz31 hz32 rfl (by decide) (.slice A1 sn c1) sn _ rfl (HRW.out.1.alloc _) ⟨wr.heap.size, 0, none⟩ 1 1 [.int .i64 ((2 : Nat) : Int)] rfl rfl (World.news_of_block (cs := #[.int .i64 ((2 : Nat) : Int)]) (t := 3) (fr := (0, 0)) (heap_alloc_new wr _)) (by simp [Value.oneCell']) (by omega) (by simp only [maxLen]; omega) (by omega) (by simp; omega) (wr.heap.size + 1) (by simp) ?_; intro gg cap w1 hown1 hgrow1 hat1 hlt1; obtain ⟨y3, z3, y4, z4, hoi1⟩ := HLI.out.oi.sym2 (d := 2) HLI.out.hs HLI.out.hd hown1 hgrow1; have HOI1 := Lib.hid hoi1; have hs1 : ob + 1 ≤ w1.heap.size := hoi1.size; clear hown1 hgrow1 hat1 hlt1 hoi1) | (at_builtin; refine wpList_append_lies _ rfl _ _ _ rfl (ob + 1) 2 i2 _ 1 8 Try.underlying23 hi2 hz20 hz21 hz22 rfl (by decide) (.slice A2 dn c2) dn _ rfl ((HOI1.out.rows rfl HLI.out.hd).2.alloc _) ⟨w1.heap.size, 0, none⟩ 1 1 [.int .i64 dd] rfl rfl (World.news_of_block (cs := #[.int .i64 dd]) (t := 2) (fr := (0, 0)) (heap_alloc_set w1 _ _ _)) (by simp [Value.oneCell']) (by omega) (by simp only [maxLen]; omega) (by omega) (by simp; omega) (w1.heap.size + 1) (by simp) ?_; intro g9 cap9 w9 hown9 hgrow9 hat9 hlt99; obtain ⟨y9, z9, hoi9⟩ := HOI1.out.time2 HLI.out.hd hown9 hgrow9; have HOI9 := Lib.hid hoi9; clear hown9 hgrow9 hat9 hlt99 hoi9))
                    have HL9 := Lib.hid (HLI.out.take HY2.out HEQ.out hqi.out.pq.up HF1.out HT1P.out HLE.out HDD.out (show fitsD dd from ⟨by omega, by omega⟩) HSY.out HOI9.out)
                    refine ⟨⟨nn + 1, a + 1, _, _, _, _, _, _, _, v + 1, t1, rfl, by go_num, rfl, ?_, ?_, HL9.out⟩, ?_⟩
                    · exact (HOI9.out.blk.cell 3).trans (by rw [List.length_append, HLI.out.hs]; rfl)
                    · exact (HOI9.out.blk.cell 4).trans (by rw [show (st.D ++ [dd]).length = dn + 1 by rw [List.length_append, HLI.out.hd]; rfl]; rfl)
                    · simp only [intOf]; omega
                  · go_wp2_with fail
                    refine bodyPost_ret (v := .tuple #[.agg #[.int .i64 0, .int .i64 0, .int .u32 0, .slice none 0 0, .slice none 0 0], .bool false]) (by simp [results, Try.results28, go_sem, q0, q1, q2, q3, q4]) rfl (sf_no (HST.out wr HTW2.out))
              · have HNE : Hid (y.n ≠ nn) := by have h1 := HYV.out; have h2 := HLI.out.hv; show y.n ≠ nn; omega
                have hneb : (yv != v) = true := by simp [heq]
                go_wp2_with (at_builtin; refine wpList_append_lies _ rfl _ _ _ rfl (ob + 1) 3 i3 _ 1 8 Try.underlying62 hi3 hz30 hz31 hz32 rfl (by decide) (.slice A1 sn c1) sn _ rfl (HRW.out.1.alloc _) ⟨wr.heap.size, 0, none⟩ 1 1 [.int .i64 ((0 : Nat) : Int)] rfl rfl (World.news_of_block (cs := #[.int .i64 ((0 : Nat) : Int)]) (t := 3) (fr := (0, 0)) (heap_alloc_new wr _)) (by simp [Value.oneCell']) (by omega) (by simp only [maxLen]; omega) (by omega) (by simp; omega) (wr.heap.size + 1) (by simp) ?_; intro gg cap w1 hown1 hgrow1 hat1 hlt1; obtain ⟨y3, z3, y4, z4, hoi1⟩ := HLI.out.oi.sym2 (d := 0) HLI.out.hs HLI.out.hd hown1 hgrow1; have HOI1 := Lib.hid hoi1; have hs1 : ob + 1 ≤ w1.heap.size := hoi1.size; clear hown1 hgrow1 hat1 hlt1 hoi1)
                have HL9 := Lib.hid (HLI.out.skip HY2.out HNE.out hqi.out.pq.up (fun hz => PQ.none_ (by rw [HL.out]; exact hqi.out.pq) (by rw [HL.out, HL2.out]) hz) HLE.out HOI1.out)
                refine ⟨⟨nn + 1, a, _, _, _, _, _, _, _, v + 1, bt, rfl, rfl, rfl, ?_, ?_, HL9.out⟩, ?_⟩
                · exact (HOI1.out.blk.cell 3).trans (by rw [List.length_append, HLI.out.hs]; rfl)
                · exact (HOI1.out.blk.cell 4).trans (by rw [HLI.out.hd]; rfl)
                · simp only [intOf]; omega
            · have hnn : nn = yl.n + 1 := by have h1 := HLI.out.hv; have h2 := HN.out.2; have h3 := HLI.out.le; omega
              subst hnn
              have HTW2 : Hid (Touch Nowhere w wr) := HTW.out.trans HKW.out fun _ _ h => h
              have hallg : ∀ t ∈ ts, goodT t := fun t ht => hqi.out.good t (by rw [List.take_of_length_le (by rw [HL2.out]; exact Nat.le_refl _)]; exact ht)
              have htells := HLI.out.tl.tells (yl := yl) (by rw [HL.out]; exact hqi.out.pq) (by rw [HL.out, HL2.out]) HND.out hallg HY.out.1 rfl (by rw [HIL.out, ← HLK.out]; exact HY.out.2) rfl (by have h1 := HN.out; have h2 := HD.out; omega)
              have hqe := htells.q
              have hoi := HLI.out.oi
              have hsn := HLI.out.hs
              rw [hqe, Nat.sub_self, List.replicate_zero, List.append_nil] at hoi hsn
              have r0 := hoi.blk.cell 0
              have r1 := hoi.blk.cell 1
              have r2 := hoi.blk.cell 2
              simp at r0 r1 r2
              have hbk3 := HBV.out wr HLI.out.oi.touch
              have q0 := hbk3.cell 0
              have q1 := hbk3.cell 1
              have q2 := hbk3.cell 2
              have q3 := hbk3.cell 3
              have q4 := hbk3.cell 4
              have f0 := hbk3.free 0
              have f1 := hbk3.free 1
              have f2 := hbk3.free 2
              have f3 := hbk3.free 3
              have f4 := hbk3.free 4
              simp at q0 q1 q2 q3 q4
              have hrows := hoi.rows hsn HLI.out.hd
              have hrbo : rb < ob + 1 := by have h1 := hbk3.lt; have h2 := hoi.touch.size; have h3 := HVS.out; have h4 := HBV.out V (Touch.refl _ _); have := h4.lt; omega
              have hfin : SFPost xs ts w (.returned (.tuple #[.agg #[.int .i64 s16, .int .i64 (D + 1), .int .u32 rf, .slice A1 sn c1, .slice A2 dn c2], .bool true])) (((((wr.setCell ⟨rb, 0, none⟩ (.int .i64 s16)).setCell ⟨rb, 1, none⟩ (.int .i64 (D + 1))).setCell ⟨rb, 2, none⟩ (.int .u32 rf)).setCell ⟨rb, 3, none⟩ (.slice A1 sn c1)).setCell ⟨rb, 4, none⟩ (.slice A2 dn c2)) := by
                have hr := HRB.out
                have hne : ∀ i, (⟨rb, i, none⟩ : Addr).block < w.heap.size → Nowhere (⟨rb, i, none⟩ : Addr).block := fun i h => by have h1 : rb < w.heap.size := h; omega
                refine ⟨(((((HTW2.out.setCell (p := ⟨rb, 0, none⟩) (hne 0) _).setCell (p := ⟨rb, 1, none⟩) (hne 1) _).setCell (p := ⟨rb, 2, none⟩) (hne 2) _).setCell (p := ⟨rb, 3, none⟩) (hne 3) _).setCell (p := ⟨rb, 4, none⟩) (hne 4) _).below (Nat.le_refl _) fun _ _ h => h, s16, D + 1, rf, A1, sn, c1, A2, dn, c2, true, rfl, fun _ => ⟨y0.n, yl.n + 1, st, htells, ?_, ?_, ?_, hsn.symm, HLI.out.hd.symm, ?_, ?_⟩⟩
                · have h1 := HR.out.2.2.2
                  have h2 := HN.out.1
                  omega
                · have h1 := HD.out
                  have h2 := HN.out
                  have h3 := up_le hqi.out.pq.up HY.out.1 HY.out.2
                  omega
                · rw [HF00.out]
                  exact HR.out.1.symm
                · exact (OwnsAt.ofRow (own_far (own_far (own_far (own_far (own_far hrows.1 (p := ⟨rb, 0, none⟩) hrbo _) (p := ⟨rb, 1, none⟩) hrbo _) (p := ⟨rb, 2, none⟩) hrbo _) (p := ⟨rb, 3, none⟩) hrbo _) (p := ⟨rb, 4, none⟩) hrbo _)).low (by omega)
                · exact (OwnsAt.ofRow (own_far (own_far (own_far (own_far (own_far hrows.2 (p := ⟨rb, 0, none⟩) hrbo _) (p := ⟨rb, 1, none⟩) hrbo _) (p := ⟨rb, 2, none⟩) hrbo _) (p := ⟨rb, 3, none⟩) hrbo _) (p := ⟨rb, 4, none⟩) hrbo _)).low (by omega)
              have HFIN := Lib.hid hfin
              clear hfin htells hqe hoi hsn hrows hallg hbk3
              go_wp2_with fail
              refine bodyPost_ret (v := .tuple #[.agg #[.int .i64 s16, .int .i64 (D + 1), .int .u32 rf, .slice A1 sn c1, .slice A2 dn c2], .bool true]) (by simp [results, Try.results28, go_sem, q0, q1, q2, q3, q4]) rfl HFIN.out
  · go_wp2_with fail
    refine bodyPost_ret (v := .tuple #[.agg #[.int .i64 0, .int .i64 0, .int .u32 0, .slice none 0 0, .slice none 0 0], .bool false]) (by simp [results, Try.results28, go_sem, q0, q1, q2, q3, q4]) rfl (sf_no (HST.out W1 HT1.out))
end Go.Proofs.Ytlkmmkphpiamcaa
