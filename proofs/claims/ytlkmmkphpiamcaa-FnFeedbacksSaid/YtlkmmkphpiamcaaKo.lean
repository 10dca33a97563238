/-
  Feedback that is being built: how it lies; what an added symbol, a chunk that is put out and a time make of it. No condition. By an AI agent.
-/
import Derived.Test.YtlkmmkphpiamcaaKn
namespace Go.Proofs.Ytlkmmkphpiamcaa
open Go.RowKit

theorem OwnsAt.kind {w : World} {base n size : Nat} {e : TypeId} {v : Value} {xs : List Value} (h : OwnsAt w base e size v n xs) {g : Nat} (hg : v.ownBlock = some g) : ∃ cur, w.heap[g]? = some (.cells cur e (0, 0)) := by
  rcases h.2 with ⟨rfl, _⟩ | ⟨g', off, cap, cur, rfl, _, h1, _⟩
  · simp [Value.ownBlock] at hg
  · simp only [Value.ownBlock, Option.some.injEq] at hg
    subst hg
    exact ⟨cur, h1⟩
theorem OwnsAt.touch {w w' : World} {base n size : Nat} {e : TypeId} {v : Value} {xs : List Value} {S : Nat → Prop} (h : OwnsAt w base e size v n xs) (ht : Touch S w w') (hS : ∀ q cs, Blk w q e cs → ¬ S q) : OwnsAt w' base e size v n xs :=
  h.keep fun g _ hv => by
    obtain ⟨cur, hc⟩ := h.kind hv
    exact ht.block g (lt_of_block hc) (hS g cur hc)
theorem SymAt.touch {w w' : World} {v : Value} {g o : Nat} {ds : List Nat} {S : Nat → Prop} (h : SymAt w v g o ds) (ht : Touch S w w') (hS : ∀ q cs, Blk w q 33 cs → ¬ S q) : SymAt w' v g o ds := by
  obtain ⟨cs, hc⟩ := h.row
  exact h.keep (ht.block g (lt_of_block hc) (hS g cs hc))

/-- Chunks of a report tell the symbols ps. -/
def ChsAt (w : World) (base : Nat) (v : Value) : List Value → List (List Nat) → Prop
  | [], [] => True
  | c :: cs, p :: ps => ChAt w base v c p ∧ ChsAt w base v cs ps
  | _, _ => False
theorem ChsAt.map {w w' : World} {base : Nat} {v v' : Value} (hm : ∀ c p, ChAt w base v c p → ChAt w' base v' c p) : ∀ {cs : List Value} {ps : List (List Nat)}, ChsAt w base v cs ps → ChsAt w' base v' cs ps
  | [], [], _ => trivial
  | _ :: _, _ :: _, h => ⟨hm _ _ h.1, ChsAt.map hm h.2⟩
  | [], _ :: _, h => h.elim
  | _ :: _, [], h => h.elim
theorem ChsAt.snoc {w : World} {base : Nat} {v c : Value} {p : List Nat} (hc : ChAt w base v c p) : ∀ {cs : List Value} {ps : List (List Nat)}, ChsAt w base v cs ps → ChsAt w base v (cs ++ [c]) (ps ++ [p])
  | [], [], _ => ⟨hc, trivial⟩
  | _ :: _, _ :: _, h => ⟨h.1, ChsAt.snoc hc h.2⟩
  | [], _ :: _, h => h.elim
  | _ :: _, [], h => h.elim

/-- Times, as cells. -/
def tcells (T : List (Nat × Int)) : List Value := T.flatMap fun x => [.int .u16 (x.1 : Int), .int .i64 x.2]
theorem tcells_snoc (T : List (Nat × Int)) (a : Nat) (b : Int) : tcells (T ++ [(a, b)]) = tcells T ++ [.int .u16 (a : Int), .int .i64 b] := by simp [tcells]

/-- The rows of feedback: the last chunk's symbols, the chunks, the times. -/
structure Core (w : World) (base : Nat) (v chs dls : Value) (ds : List Nat) (cl : List Value) (ps : List (List Nat)) (T : List (Nat × Int)) : Prop where
  own : OwnsAt w base 33 1 v ds.length (us ds)
  chs : OwnsAt w base 187 1 chs cl.length cl
  chunks : ChsAt w base v cl ps
  dls : OwnsAt w base 173 2 dls T.length (tcells T)

section
variable {w w' : World} {base k : Nat} {v chs dls : Value} {ds : List Nat} {cl : List Value} {ps : List (List Nat)} {T : List (Nat × Int)} {S : Nat → Prop}
/-- Other blocks turn. -/
theorem Core.away (h : Core w base v chs dls ds cl ps T) (ht : Touch S w w') (hS : ∀ q t cs, Blk w q t cs → S q → t ≠ 33 ∧ t ≠ 187 ∧ t ≠ 173 ∧ t ≠ 190 ∧ t ≠ 193) : Core w' base v chs dls ds cl ps T := by
  refine ⟨h.own.touch ht fun q cs hb hs => (hS q _ cs hb hs).1 rfl, h.chs.touch ht fun q cs hb hs => (hS q _ cs hb hs).2.1 rfl, h.chunks.map fun c p hc => hc.step ht (fun q t cs hb hk hs => ?_) fun g o es he => he.touch ht fun q cs hb hs => (hS q _ cs hb hs).1 rfl, h.dls.touch ht fun q cs hb hs => (hS q _ cs hb hs).2.2.1 rfl⟩
  rcases hk with rfl | rfl
  · exact (hS q _ cs hb hs).2.2.2.1 rfl
  · exact (hS q _ cs hb hs).2.2.2.2 rfl
theorem kindOf {w : World} {q t t' : Nat} {cs cs' : Array Value} (h : Blk w q t cs) (h' : Blk w q t' cs') : t = t' := by
  unfold Blk at h h'
  rw [h] at h'
  injection h' with h'
  injection h'
theorem Core.set (h : Core w base v chs dls ds cl ps T) {cs : Array Value} (hb : Blk w k 202 cs) (i : Nat) (u : Value) : Core (w.setCell ⟨k, i, none⟩ u) base v chs dls ds cl ps T :=
  h.away ((Touch.refl (· = k) w).setCell (p := ⟨k, i, none⟩) (fun _ => rfl) u) fun q t cs' hq hk => by
    subst hk
    have := kindOf hq hb
    subst this
    decide
theorem Core.alloc (h : Core w base v chs dls ds cl ps T) (o : Obj) : Core (w.alloc o) base v chs dls ds cl ps T := h.away ((Touch.refl Nowhere w).alloc o) fun _ _ _ _ hs => hs.elim
theorem Core.drewN (h : Core w base v chs dls ds cl ps T) (n : Nat) : Core (w.drewN n) base v chs dls ds cl ps T := h.away ((Touch.refl Nowhere w).drewN n) fun _ _ _ _ hs => hs.elim
/-- The last chunk's symbols grow. -/
theorem Core.add {f : FB} {d : Nat} (h : Core w base f.v chs dls ds cl ps T) (hB : Blk w k 202 f.cells) (hp : ChunkPost w w' k base ds.length f ds d) :
    ∃ v' hl' hd', Blk w' k 202 { f with v := v', hl := hl', hd := hd' }.cells ∧ Core w' base v' chs dls (ds ++ [d]) cl ps T ∧ (hd' = false → f.hd = false ∧ (ds ++ [d])[0]? = some d) ∧ Touch (fun b => b = k ∨ f.v.ownBlock = some b) w w' := by
  obtain ⟨v', hl', hd', h1, h2, h3, h4, h5, h6⟩ := hp
  have hS : ∀ q t cs, Blk w q t cs → (q = k ∨ f.v.ownBlock = some q) → t = 202 ∨ t = 33 := by
    rintro q t cs hq (rfl | hq2)
    · exact .inl (kindOf hq hB)
    · obtain ⟨cur, hc⟩ := h.own.kind hq2
      exact .inr (kindOf hq hc)
  refine ⟨v', hl', hd', h1, ⟨by simpa using h2, h.chs.touch h5 fun q cs hq hs => ?_, h.chunks.map fun c p hc => hc.step h5 (fun q t cs hq hk hs => ?_) h4, h.dls.touch h5 fun q cs hq hs => ?_⟩, h3, h5⟩
  · rcases hS q _ cs hq hs with h | h <;> exact absurd h (by decide)
  · rcases hS q _ cs hq hs with h | h <;> rcases hk with rfl | rfl <;> exact absurd h (by decide)
  · rcases hS q _ cs hq hs with h | h <;> exact absurd h (by decide)
/-- A chunk is put out. -/
theorem Core.encode {f : FB} {c : Value} {a b : List Nat} {v' : Value} {hl' hd' : Bool} (h : Core w base f.v chs dls ds cl ps T) (hB : Blk w k 202 f.cells) (hp : Encoded w w' k base ds.length f ds c a b v' hl' hd') :
    Core w' base v' chs dls b cl ps T := by
  have hS : ∀ q t cs, Blk w q t cs → q = k → t = 202 := fun q t cs hq hk => by subst hk; exact kindOf hq hB
  refine ⟨hp.own, h.chs.touch hp.touch fun q cs hq hs => absurd (hS q _ cs hq hs) (by decide), h.chunks.map fun c p hc => hc.step hp.touch (fun q t cs hq hk hs => ?_) hp.syms, h.dls.touch hp.touch fun q cs hq hs => absurd (hS q _ cs hq hs) (by decide)⟩
  have := hS q t cs hq hs
  rcases hk with rfl | rfl <;> exact absurd this (by decide)
/-- It is put to the chunks. -/
theorem Core.chunk {c : Value} {p : List Nat} {chs' : Value} (h : Core w base v chs dls ds cl ps T) (hc : ChAt w base v c p) (hg : (w.alloc (.cells #[c] 187)).grownBy w' chs.ownBlock) (ho : OwnsAt w' base 187 1 chs' (cl.length + 1) (cl ++ [c])) :
    Core w' base v chs' dls ds (cl ++ [c]) (ps ++ [p]) T := by
  have h1 := h.alloc (.cells #[c] 187)
  have ht : Touch (fun b => chs.ownBlock = some b) (w.alloc (.cells #[c] 187)) w' := grown_touch hg
  have hc1 : ChAt (w.alloc (.cells #[c] 187)) base v c p := hc.step ((Touch.refl Nowhere w).alloc _) (fun _ _ _ _ _ h => h) fun g o es he => he.touch ((Touch.refl Nowhere w).alloc _) fun _ _ _ h => h
  have hS : ∀ q t cs, Blk (w.alloc (.cells #[c] 187)) q t cs → chs.ownBlock = some q → t = 187 := by
    intro q t cs hq hs
    obtain ⟨cur, hcur⟩ := h1.chs.kind hs
    exact kindOf hq hcur
  have hstep : ∀ c' p', ChAt (w.alloc (.cells #[c] 187)) base v c' p' → ChAt w' base v c' p' := fun c' p' h' => h'.step ht (fun q t cs hq hk hs => by have := hS q t cs hq hs; rcases hk with rfl | rfl <;> exact absurd this (by decide)) fun g o es he => he.touch ht fun q cs hq hs => absurd (hS q _ cs hq hs) (by decide)
  exact ⟨h1.own.touch ht fun q cs hq hs => absurd (hS q _ cs hq hs) (by decide), by simpa using ho, (h1.chunks.map hstep).snoc (hstep _ _ hc1), h1.dls.touch ht fun q cs hq hs => absurd (hS q _ cs hq hs) (by decide)⟩
/-- A time is put to the times. -/
theorem Core.time {a : Nat} {b : Int} {dls' : Value} (h : Core w base v chs dls ds cl ps T) (hg : (w.alloc (.cells #[.int .u16 (a : Int), .int .i64 b] 173)).grownBy w' dls.ownBlock) (ho : OwnsAt w' base 173 2 dls' (T.length + 1) (tcells T ++ [.int .u16 (a : Int), .int .i64 b])) :
    Core w' base v chs dls' ds cl ps (T ++ [(a, b)]) := by
  have h1 := h.alloc (.cells #[.int .u16 (a : Int), .int .i64 b] 173)
  have ht : Touch (fun q => dls.ownBlock = some q) (w.alloc (.cells #[.int .u16 (a : Int), .int .i64 b] 173)) w' := grown_touch hg
  have hS : ∀ q t cs, Blk (w.alloc (.cells #[.int .u16 (a : Int), .int .i64 b] 173)) q t cs → dls.ownBlock = some q → t = 173 := by
    intro q t cs hq hs
    obtain ⟨cur, hcur⟩ := h1.dls.kind hs
    exact kindOf hq hcur
  exact ⟨h1.own.touch ht fun q cs hq hs => absurd (hS q _ cs hq hs) (by decide), h1.chs.touch ht fun q cs hq hs => absurd (hS q _ cs hq hs) (by decide),
    h1.chunks.map fun c' p' h' => h'.step ht (fun q t cs hq hk hs => by have := hS q t cs hq hs; rcases hk with rfl | rfl <;> exact absurd this (by decide)) fun g o es he => he.touch ht fun q cs hq hs => absurd (hS q _ cs hq hs) (by decide),
    by rw [tcells_snoc]; simpa using ho⟩
end

/-- Feedback that is being built lies in block k, its rows from block base on: symbols S so far (the last n of them in the last chunk), times D so far. -/
structure FbAt (w : World) (base k : Nat) (f : FB) (S : List Nat) (D : List Int) (n : Nat) : Prop where
  lo : base ≤ k
  blk : Blk w k 202 f.cells
  core : ∃ ds cl ps T, Core w base f.v f.chs f.dls ds cl ps T ∧ ds.length = n ∧ ps.flatten ++ ds = S ∧ T.map Prod.snd = D ∧ cl.length + ds.length ≤ S.length ∧ (f.hd = false → ∀ d ∈ ds, ds[0]? = some d)

section
variable {w w' : World} {base k n : Nat} {f : FB} {S : List Nat} {D : List Int}
theorem FbAt.away {Z : Nat → Prop} (h : FbAt w base k f S D n) (ht : Touch Z w w') (hk : ¬ Z k) (hS : ∀ q t cs, Blk w q t cs → Z q → t ≠ 33 ∧ t ≠ 187 ∧ t ≠ 173 ∧ t ≠ 190 ∧ t ≠ 193) : FbAt w' base k f S D n := by
  obtain ⟨ds, cl, ps, T, hc, h1⟩ := h.core
  exact ⟨h.lo, h.blk.touch ht hk, ds, cl, ps, T, hc.away ht hS, h1⟩
theorem FbAt.drewN (h : FbAt w base k f S D n) (m : Nat) : FbAt (w.drewN m) base k f S D n := h.away ((Touch.refl Nowhere w).drewN m) (fun h => h) fun _ _ _ _ hs => hs.elim
theorem FbAt.len (h : FbAt w base k f S D n) : n ≤ S.length := by
  obtain ⟨ds, cl, ps, T, hc, h1, rfl, _⟩ := h.core
  rw [List.length_append]
  omega
/-- A plain field is set. -/
theorem FbAt.set (h : FbAt w base k f S D n) {f' : FB} (i : Nat) (u : Value) (hf : f.cells.setIfInBounds i u = f'.cells) (h1 : f'.v = f.v) (h2 : f'.chs = f.chs) (h3 : f'.dls = f.dls) (h4 : f'.hd = f.hd) : FbAt (w.setCell ⟨k, i, none⟩ u) base k f' S D n := by
  obtain ⟨ds, cl, ps, T, hc, hr⟩ := h.core
  have hb := h.blk.put i u
  rw [hf] at hb
  exact ⟨h.lo, hb, ds, cl, ps, T, by rw [h1, h2, h3]; exact hc.set h.blk i u, by rw [h4]; exact hr⟩
theorem FbAt.base_v (h : FbAt w base k f S D n) {b : Nat} (hb : f.v.ownBlock = some b) : base ≤ b := by
  obtain ⟨ds, cl, ps, T, hc, _⟩ := h.core
  exact (hc.own.lt b hb).1
/-- A symbol is added. -/
theorem FbAt.add {d : Nat} (h : FbAt w base k f S D n) {ds : List Nat} (hp : ChunkPost w w' k base ds.length f ds d) (hd : ∃ cl ps T, Core w base f.v f.chs f.dls ds cl ps T ∧ ds.length = n ∧ ps.flatten ++ ds = S ∧ T.map Prod.snd = D ∧ cl.length + ds.length ≤ S.length ∧ (f.hd = false → ∀ d ∈ ds, ds[0]? = some d)) :
    ∃ v' hl' hd', FbAt w' base k { f with v := v', hl := hl', hd := hd' } (S ++ [d]) D (n + 1) ∧ Touch (fun b => base ≤ b) w w' := by
  obtain ⟨cl, ps, T, hc, rfl, rfl, rfl, hcl, hal⟩ := hd
  obtain ⟨v', hl', hd', h1, h2, h3, h4⟩ := hc.add h.blk hp
  refine ⟨v', hl', hd', ⟨h.lo, h1, ds ++ [d], cl, ps, T, h2, by simp, by simp, rfl, by simp only [List.length_append, List.length_singleton] at hcl ⊢; omega, fun hh x hx => ?_⟩, h4.mono fun b _ hb => ?_⟩
  · obtain ⟨h5, h6⟩ := h3 hh
    rcases List.mem_append.1 hx with hx | hx
    · have h7 := hal h5 x hx
      rw [List.getElem?_append_left (List.length_pos_of_mem hx)]
      exact h7
    · simp only [List.mem_singleton] at hx
      subst hx
      exact h6
  · rcases hb with rfl | hb
    · exact h.lo
    · exact h.base_v hb
end

theorem canAdd_fb (base k d n : Nat) (f : FB) (S : List Nat) (D : List Int) (w : World) (h : FbAt w base k f S D n) (hS : S.length < 4096) :
    Calls Try.prog 110 #[.pointer (some ⟨k, 7, none⟩), .int .u16 (d : Int)] w fun e w' => Fits n e ∧ w' = w := by
  obtain ⟨ds, cl, ps, T, hc, hn, hrest⟩ := h.core
  have hle := h.len
  obtain ⟨A, c, hv, hnc, hcm⟩ := hc.own.shape
  rw [hn] at hv
  by_cases h7 : n < 7
  · exact canAdd_few k d n c A f w h.blk hv h7
  · have hown := hc.own
    rw [hn] at hown
    rw [hv] at hown
    obtain ⟨ad, rfl, _, _, hcell⟩ := hown.cells (by omega)
    obtain ⟨d0, hd0⟩ : ∃ d0, ds[0]? = some d0 := ⟨_, List.getElem?_eq_getElem (by omega)⟩
    have h0 := hcell 0 _ (us_get hd0)
    have h00 : w.cell? ad = some (.int .u16 (d0 : Int)) := by simpa [Addr.add] using h0
    exact canAdd_many k d n c ad (d0 : Int) f w h.blk hv (by omega) (by omega) h00
theorem add_fb (base k d n : Nat) (f : FB) (S : List Nat) (D : List Int) (w : World) (h : FbAt w base k f S D n) (hS : S.length < 4096) :
    Calls Try.prog 111 #[.pointer (some ⟨k, 7, none⟩), .int .u16 (d : Int)] w fun e w' => e = .returned (.tuple #[]) ∧ ∃ v' hl' hd', FbAt w' base k { f with v := v', hl := hl', hd := hd' } (S ++ [d]) D (n + 1) ∧ Touch (fun b => base ≤ b) w w' := by
  obtain ⟨ds, cl, ps, T, hc, hrest⟩ := h.core
  have hle := h.len
  have hklt := h.blk.lt
  refine (add_ch k d ds.length base f ds w h.blk hc.own (by have := hrest.1; omega) (by have := h.lo; omega)).mono ?_
  rintro e w' ⟨rfl, hp⟩
  exact ⟨rfl, h.add hp ⟨cl, ps, T, hc, hrest⟩⟩

/-- Behind a chunk that has been put out, and put to the chunks. -/
theorem FbAt.flush {w w1 w2 : World} {base k n : Nat} {f : FB} {S : List Nat} {D : List Int} {ds : List Nat} {cl : List Value} {ps : List (List Nat)} {T : List (Nat × Int)} {c : Value} {a b : List Nat} {v' chs' : Value} {hl' hd' : Bool} (h : FbAt w base k f S D n)
    (hc : Core w base f.v f.chs f.dls ds cl ps T) (hr : ds.length = n ∧ ps.flatten ++ ds = S ∧ T.map Prod.snd = D ∧ cl.length + ds.length ≤ S.length) (he : Encoded w w1 k base ds.length f ds c a b v' hl' hd')
    (hg : (w1.alloc (.cells #[c] 187)).grownBy w2 f.chs.ownBlock) (ho : OwnsAt w2 base 187 1 chs' (cl.length + 1) (cl ++ [c])) :
    FbAt (w2.setCell ⟨k, 10, none⟩ chs') base k { f with v := v', hl := hl', hd := hd', chs := chs' } S D b.length ∧ b.length < n ∧ Touch (fun q => base ≤ q) w (w2.setCell ⟨k, 10, none⟩ chs') := by
  obtain ⟨h1, h2, h3, h4⟩ := hr
  have c1 := hc.encode h.blk he
  have c2 := c1.chunk he.ch hg ho
  have hkc : f.chs.ownBlock ≠ some k := by
    intro hh
    obtain ⟨cur, hcur⟩ := c1.chs.kind hh
    exact absurd (kindOf hcur he.blk) (by decide)
  have hb2 : Blk w2 k 202 { f with v := v', hl := hl', hd := hd' }.cells := (he.blk.alloc _).grown hg fun hh => hkc hh.symm
  have hlt : b.length < n := by
    have h5 := congrArg List.length he.cut
    rw [List.length_append] at h5
    have : 0 < a.length := List.length_pos_iff.2 he.some_
    omega
  refine ⟨⟨h.lo, ?_, b, cl ++ [c], ps ++ [a], T, c2.set hb2 10 chs', rfl, ?_, h3, by simp only [List.length_append, List.length_singleton]; omega, he.alike⟩, hlt, ?_⟩
  · have h5 := hb2.put 10 chs'
    simpa [FB.cells] using h5
  · rw [← h2, he.cut]
    simp
  · refine Touch.setCell (p := ⟨k, 10, none⟩) (Touch.grown (Touch.alloc (he.touch.mono fun b _ hb => by subst hb; exact h.lo) _) hg fun q hq _ => (hc.chs.lt q hq).1) (fun _ => h.lo) _
/-- Behind a time that has been put to the times. -/
theorem FbAt.time {w w2 : World} {base k n : Nat} {f : FB} {S : List Nat} {D : List Int} {ds : List Nat} {cl : List Value} {ps : List (List Nat)} {T : List (Nat × Int)} {x : Nat} {t : Int} {dls' : Value} (h : FbAt w base k f S D n)
    (hc : Core w base f.v f.chs f.dls ds cl ps T) (hr : ds.length = n ∧ ps.flatten ++ ds = S ∧ T.map Prod.snd = D ∧ cl.length + ds.length ≤ S.length ∧ (f.hd = false → ∀ d ∈ ds, ds[0]? = some d))
    (hg : (w.alloc (.cells #[.int .u16 (x : Int), .int .i64 t] 173)).grownBy w2 f.dls.ownBlock) (ho : OwnsAt w2 base 173 2 dls' (T.length + 1) (tcells T ++ [.int .u16 (x : Int), .int .i64 t])) :
    FbAt (w2.setCell ⟨k, 11, none⟩ dls') base k { f with dls := dls' } S (D ++ [t]) n ∧ Touch (fun q => base ≤ q) w (w2.setCell ⟨k, 11, none⟩ dls') := by
  obtain ⟨h1, h2, h3, h4, h5⟩ := hr
  have c2 := hc.time hg ho
  have hkc : f.dls.ownBlock ≠ some k := by
    intro hh
    obtain ⟨cur, hcur⟩ := hc.dls.kind hh
    exact absurd (kindOf hcur h.blk) (by decide)
  have hb2 : Blk w2 k 202 f.cells := (h.blk.alloc _).grown hg fun hh => hkc hh.symm
  refine ⟨⟨h.lo, ?_, ds, cl, ps, T ++ [(x, t)], c2.set hb2 11 dls', h1, h2, by simp [h3], h4, h5⟩, ?_⟩
  · have h5 := hb2.put 11 dls'
    simpa [FB.cells] using h5
  · refine Touch.setCell (p := ⟨k, 11, none⟩) (Touch.grown (Touch.alloc (Touch.refl _ w) _) hg fun q hq _ => (hc.dls.lt q hq).1) (fun _ => h.lo) _
end Go.Proofs.Ytlkmmkphpiamcaa
