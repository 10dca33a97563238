/-
  A chunk of feedback: what fits in (canAdd), what is put in (add), emptied (reset). Condition: the chunk lies in its feedback's block. By an AI agent.
-/
import Derived.Test.YtlkmmkphpiamcaaKa
import Derived.Test.YtlkmmkphpiamcaaAu
namespace Go.Proofs.Ytlkmmkphpiamcaa
open Go.RowKit

/-- Feedback that is being built: the report, base, reference time, last time, next number, count, length; the last chunk (has a large one, has different ones, its symbols); chunks, times. -/
structure FB where
  rt : Nat
  base : Nat
  ref : Int
  last : Int
  next : Nat
  cnt : Nat
  len : Int
  hl : Bool
  hd : Bool
  v : Value
  chs : Value
  dls : Value
def FB.cells (f : FB) : Array Value :=
  #[.pointer (some ⟨f.rt, 0, none⟩), .int .u16 (f.base : Int), .int .i64 f.ref, .int .i64 f.last, .int .u16 (f.next : Int), .int .u16 (f.cnt : Int), .int .i64 f.len, .bool f.hl, .bool f.hd, f.v, f.chs, f.dls]
def us (l : List Nat) : List Value := l.map fun d : Nat => .int .u16 (d : Int)
theorem us_len (l : List Nat) : (us l).length = l.length := by simp [us]
theorem us_append (a b : List Nat) : us (a ++ b) = us a ++ us b := by simp [us]
theorem info_u16K : (Try.prog.info? 33).map (fun i => (i.zero, i.size, i.bytes)) = some (some (.int .u16 0), 1, 2) := by kernel_rfl

/-- What canAdd answers: it does not fit only where there are seven. -/
def Fits (n : Nat) (e : Ending) : Prop := ∃ β, e = .returned (.bool β) ∧ (β = false → 7 ≤ n)

set_option maxRecDepth 100000 in
theorem canAdd_few (k d n c : Nat) (A : Option Addr) (f : FB) (w : World) (hB : Blk w k 202 f.cells) (hv : f.v = .slice A n c) (hn : n < 7) :
    Calls Try.prog 110 #[.pointer (some ⟨k, 7, none⟩), .int .u16 (d : Int)] w fun e w' => Fits n e ∧ w' = w := by
  have c9 := hB.cell 9
  simp [FB.cells, hv] at c9
  clear hB hv
  go_enter Try.func110, Try.ntmps110
  go_wp2_with fail
  all_goals go_ret
  all_goals exact ⟨⟨_, rfl, fun h => by cases h⟩, rfl⟩

set_option maxHeartbeats 1000000 in
set_option maxRecDepth 100000 in
theorem canAdd_many (k d n c : Nat) (ad : Addr) (u : Int) (f : FB) (w : World) (hB : Blk w k 202 f.cells) (hv : f.v = .slice (some ad) n c) (hn : 7 ≤ n) (hn2 : n < 4096) (hu : w.cell? ad = some (.int .u16 u)) :
    Calls Try.prog 110 #[.pointer (some ⟨k, 7, none⟩), .int .u16 (d : Int)] w fun e w' => Fits n e ∧ w' = w := by
  have c7 := hB.cell 7
  have c8 := hB.cell 8
  have c9 := hB.cell 9
  simp [FB.cells] at c7 c8
  simp [FB.cells, hv] at c9
  clear hB hv
  obtain ⟨l, hl⟩ : ∃ l, f.hl = l := ⟨_, rfl⟩
  obtain ⟨h, hh⟩ : ∃ h, f.hd = h := ⟨_, rfl⟩
  rw [hl] at c7
  rw [hh] at c8
  clear hl hh
  have HN := Lib.hid hn
  obtain ⟨N, hN⟩ : ∃ N : Int, (n : Int) = N := ⟨_, rfl⟩
  have hn8 : N < 8191 := by omega
  have hn7 : ¬ N < 7 := by omega
  have hn0 : 0 < N := by omega
  clear hn2 hn
  cases l <;> cases h
  all_goals go_enter Try.func110, Try.ntmps110
  all_goals go_wp2_with fail
  all_goals go_ret
  all_goals exact ⟨⟨_, rfl, fun _ => HN.out⟩, rfl⟩

/-- A list of symbols lies in row g from o on, clear of what an append to v would write. -/
structure SymAt (w : World) (v : Value) (g o : Nat) (ds : List Nat) : Prop where
  row : ∃ cs, w.heap[g]? = some (.cells cs 33 (0, 0))
  at_ : ∀ (j d : Nat), ds[j]? = some d → w.cell? ⟨g, o + j, none⟩ = some (.int .u16 (d : Int))
  free : ∀ off m c, v = .slice (some ⟨g, off, none⟩) m c → m < c → o + ds.length ≤ off + m

theorem SymAt.lt {w : World} {v : Value} {g o : Nat} {ds : List Nat} (h : SymAt w v g o ds) : g < w.heap.size := by
  obtain ⟨cs, h⟩ := h.row
  exact lt_of_block h
theorem SymAt.keep {w w' : World} {v : Value} {g o : Nat} {ds : List Nat} (h : SymAt w v g o ds) (hk : w'.heap[g]? = w.heap[g]?) : SymAt w' v g o ds := by
  obtain ⟨cs, h1⟩ := h.row
  exact ⟨⟨cs, hk.trans h1⟩, fun j d hd => (World.cell?_of_block (a := ⟨g, o + j, none⟩) hk).trans (h.at_ j d hd), h.free⟩
/-- Behind an append to v. -/
theorem SymAt.grew {w w' : World} {v v' : Value} {g o n base : Nat} {ds xs : List Nat} (h : SymAt w v g o ds) (hg : w.grownBy w' v.ownBlock) (hr : Grew v v' n (n + 1) w w') (hs : Spared w w' v 1) (ho : OwnsAt w' base 33 1 v' (n + 1) (us xs)) : SymAt w' v' g o ds := by
  have hlt := h.lt
  rcases hr with ⟨_, h2⟩ | ⟨g', off, c, hv, hv'⟩ | ⟨⟨c', hv'⟩, h2⟩
  · omega
  · rcases ho.2 with ⟨h3, _⟩ | ⟨g2, off2, cap2, cur, h3, _, h4, h5, _⟩
    · rw [hv'] at h3
      cases h3
    · rw [hv'] at h3
      injection h3 with h3 _ h6
      injection h3 with h3
      injection h3 with h3 _ _
      subst h3 h6
      have hfree : g = g' → o + ds.length ≤ off + n := fun e => h.free off n c (by rw [hv, e]) (by omega)
      refine ⟨?_, fun j d hd => hs g (o + j) _ (h.at_ j d hd) fun g2 off2 m c2 hv2 hgg => ?_, fun off2 m c2 hv2 _ => ?_⟩
      · by_cases he : g = g'
        · subst he
          exact ⟨cur, h4⟩
        · obtain ⟨cs, h1⟩ := h.row
          exact ⟨cs, (hg.block g hlt (by rw [hv]; simp [Value.ownBlock]; exact he)).trans h1⟩
      · rw [hv] at hv2
        injection hv2 with h7 h8 _
        injection h7 with h7
        injection h7 with h7 h9 _
        have := hfree (by omega)
        have := (List.getElem?_eq_some_iff.1 hd).1
        omega
      · rw [hv'] at hv2
        injection hv2 with h7 h8 _
        injection h7 with h7
        injection h7 with h7 h9 _
        have := hfree h7.symm
        omega
  · have h1 := h.keep (h2 g hlt)
    refine ⟨h1.row, h1.at_, fun off m c hv _ => ?_⟩
    rw [hv'] at hv
    injection hv with h3 _ _
    injection h3 with h3
    injection h3 with h3 _ _
    omega

/-- What may have turned behind a call on the chunk: the feedback's block, the row of its symbols, and new blocks. -/
def ChunkPost (w w' : World) (k base n : Nat) (f : FB) (ds : List Nat) (d : Nat) : Prop :=
  ∃ v' hl' hd', Blk w' k 202 { f with v := v', hl := hl', hd := hd' }.cells ∧ OwnsAt w' base 33 1 v' (n + 1) (us (ds ++ [d])) ∧ (hd' = false → f.hd = false ∧ (ds ++ [d])[0]? = some d) ∧
    (∀ g o es, SymAt w f.v g o es → SymAt w' v' g o es) ∧ Touch (fun b => b = k ∨ f.v.ownBlock = some b) w w' ∧ (v'.ownBlock = f.v.ownBlock ∨ ∃ z, v'.ownBlock = some z ∧ w.heap.size ≤ z)

theorem add_facts {k n d base c c2 : Nat} {A A2 : Option Addr} {f : FB} {ds : List Nat} {w w2 : World} (hO : OwnsAt w base 33 1 (.slice A n c) n (us ds)) (hB : Blk w k 202 f.cells)
    (own2 : OwnsAt w2 base 33 1 (.slice A2 (n + 1) c2) (n + 1) (us ds ++ [.int .u16 (d : Int)])) (hg2 : (w.alloc (.cells #[.int .u16 (d : Int)] 33)).grownBy w2 (Value.slice A n c).ownBlock) :
    ∃ g2 off2 d0, A2 = some ⟨g2, off2, none⟩ ∧ (ds ++ [d])[0]? = some d0 ∧ g2 ≠ k ∧ Blk w2 k 202 f.cells ∧ w2.cell? ⟨g2, off2, none⟩ = some (.int .u16 ((d0 : Nat) : Int)) := by
  have hk : (Value.slice A n c).ownBlock ≠ some k := by
    rcases hO.2 with ⟨h, _⟩ | ⟨g, off, cap, cur, h, _, hg, _⟩
    · injection h with h _ _
      subst h
      simp [Value.ownBlock]
    · injection h with h _ _
      subst h
      intro h
      simp only [Value.ownBlock, Option.some.injEq] at h
      subst h
      unfold Blk at hB
      rw [hg] at hB
      injection hB with hB
      injection hB with _ hB
      exact absurd hB (by decide)
  have hB2 := (hB.alloc (.cells #[.int .u16 (d : Int)] 33)).grown hg2 (fun h => hk h.symm)
  rcases own2.2 with ⟨_, h0⟩ | ⟨g2, off2, cap, cur, h, _, hg, _, _, _, _⟩
  · omega
  · injection h with h _ _
    subst h
    obtain ⟨ad, had, _, _, hc⟩ := own2.cells (by omega)
    injection had with had
    subst had
    have hne : g2 ≠ k := by
      rintro rfl
      unfold Blk at hB2
      rw [hg] at hB2
      injection hB2 with hB2
      injection hB2 with _ hB2
      exact absurd hB2 (by decide)
    have hlen : 0 < (ds ++ [d]).length := by simp
    refine ⟨g2, off2, (ds ++ [d])[0], rfl, List.getElem?_eq_getElem hlen, hne, hB2, ?_⟩
    have hu : us ds ++ [.int .u16 (d : Int)] = us (ds ++ [d]) := by simp [us]
    have h1 := hc 0 (.int .u16 (((ds ++ [d])[0] : Nat) : Int)) (by rw [hu]; simp only [us, List.getElem?_map]; rw [List.getElem?_eq_getElem hlen]; rfl)
    simpa [Addr.add] using h1

theorem SymAt.far {w : World} {v : Value} {g o : Nat} {ds : List Nat} (h : SymAt w v g o ds) {p : Addr} (hp : g ≠ p.block) (u : Value) : SymAt (w.setCell p u) v g o ds := h.keep (Below.heap_setCell w p u g hp)
theorem SymAt.unlike {w : World} {v : Value} {g o k : Nat} {ds : List Nat} {t : TypeId} {cs : Array Value} (h : SymAt w v g o ds) (hB : Blk w k t cs) (ht : t ≠ 33) : g ≠ k := by
  rintro rfl
  obtain ⟨cs', h1⟩ := h.row
  unfold Blk at hB
  rw [h1] at hB
  injection hB with hB
  injection hB with _ hB
  exact ht hB.symm
theorem Grew.own {v v' : Value} {n n' : Nat} {w w' : World} (h : Grew v v' n n' w w') : v'.ownBlock = v.ownBlock ∨ ∃ z, v'.ownBlock = some z ∧ w.heap.size ≤ z := by
  rcases h with ⟨rfl, _⟩ | ⟨g, off, c, rfl, rfl⟩ | ⟨⟨c, rfl⟩, _⟩
  · exact .inl rfl
  · exact .inl rfl
  · exact .inr ⟨_, rfl, Nat.le_refl _⟩

theorem add_done {k n d d0 base c2 g2 off2 : Nat} {f : FB} {ds : List Nat} {w w2 : World} {u : Value} (hB : Blk w k 202 f.cells) (hgk : g2 ≠ k) (hB2 : Blk w2 k 202 f.cells)
    (own2 : OwnsAt w2 base 33 1 (.slice (some ⟨g2, off2, none⟩) (n + 1) c2) (n + 1) (us ds ++ [.int .u16 (d : Int)])) (hd0 : (ds ++ [d])[0]? = some d0)
    (hg2 : (w.alloc (.cells #[u] 33)).grownBy w2 f.v.ownBlock) (hr : Grew f.v (.slice (some ⟨g2, off2, none⟩) (n + 1) c2) n (n + 1) (w.alloc (.cells #[u] 33)) w2) (hs : Spared (w.alloc (.cells #[u] 33)) w2 f.v 1)
    (hl' hd' : Bool) (hh : hd' = false → f.hd = false ∧ d = d0) :
    ChunkPost w (((w2.setCell ⟨k, 9, none⟩ (.slice (some ⟨g2, off2, none⟩) (n + 1) c2)).setCell ⟨k, 7, none⟩ (.bool hl')).setCell ⟨k, 8, none⟩ (.bool hd')) k base n f ds d := by
  have hu : us ds ++ [.int .u16 (d : Int)] = us (ds ++ [d]) := by simp [us]
  rw [hu] at own2
  have hne : (Value.slice (some ⟨g2, off2, none⟩) (n + 1) c2).ownBlock ≠ some k := by simpa [Value.ownBlock] using hgk
  refine ⟨.slice (some ⟨g2, off2, none⟩) (n + 1) c2, hl', hd', ?_, ?_, ?_, ?_, ?_, ?_⟩
  · have h := ((hB2.put 9 (.slice (some ⟨g2, off2, none⟩) (n + 1) c2)).put 7 (.bool hl')).put 8 (.bool hd')
    simpa [FB.cells] using h
  · exact ((own2.far (p := ⟨k, 9, none⟩) hne _).far (p := ⟨k, 7, none⟩) hne _).far (p := ⟨k, 8, none⟩) hne _
  · intro h
    obtain ⟨h1, rfl⟩ := hh h
    exact ⟨h1, hd0⟩
  · intro g o es h
    have hgk2 : g ≠ k := h.unlike hB (by decide)
    have h1 := (h.keep (Below.heap_alloc w (.cells #[u] 33) g h.lt)).grew hg2 hr hs own2
    exact ((h1.far (p := ⟨k, 9, none⟩) hgk2 _).far (p := ⟨k, 7, none⟩) hgk2 _).far (p := ⟨k, 8, none⟩) hgk2 _
  · exact (((((Touch.refl (fun b => b = k ∨ f.v.ownBlock = some b) w).alloc _).grown hg2 fun b hb _ => .inr hb).setCell (p := ⟨k, 9, none⟩) (fun _ => .inl rfl) _).setCell (p := ⟨k, 7, none⟩) (fun _ => .inl rfl) _).setCell (p := ⟨k, 8, none⟩) (fun _ => .inl rfl) _
  · rcases hr.own with h | ⟨z, h, hz⟩
    · exact .inl h
    · exact .inr ⟨z, h, by simp at hz; omega⟩

set_option maxHeartbeats 1000000 in
set_option maxRecDepth 1000000 in
theorem add_ch (k d n base : Nat) (f : FB) (ds : List Nat) (w : World) (hB : Blk w k 202 f.cells) (hO : OwnsAt w base 33 1 f.v n (us ds)) (hn : n ≤ 4096) (hbase : base ≤ w.heap.size) :
    Calls Try.prog 111 #[.pointer (some ⟨k, 7, none⟩), .int .u16 (d : Int)] w fun e w' => e = .returned (.tuple #[]) ∧ ChunkPost w w' k base n f ds d := by
  obtain ⟨i0, hi0, hz0, hz1, hz2⟩ := info_parts info_u16K
  obtain ⟨v, hv⟩ : ∃ v, f.v = v := ⟨_, rfl⟩
  have c9 := hB.cell 9
  simp [FB.cells] at c9
  rw [hv] at hO c9
  obtain ⟨A, c, rfl, _, _⟩ := hO.shape
  have HO := Lib.hid hO
  have HB := Lib.hid hB
  have HV := Lib.hid hv
  have hb1 : n + 1 ≤ maxLen := by simp only [maxLen]; omega
  have hb2 : (n + 1) * 2 ≤ 140737488355328 := by omega
  clear hO hB hv
  go_enter Try.func111, Try.ntmps111
  go_wp2_with (at_builtin; (refine wpList_append_au _ rfl (.tmp 8) (.tmp 10) 22 22 rfl base 33 i0 _ 1 2 Try.underlying22 hi0 hz0 hz1 hz2 rfl (by decide) (.slice A n c) n _ rfl (HO.out.alloc _) (.slice (some ⟨w.heap.size, 0, none⟩) 1 1) 1 [.int .u16 (d : Int)] rfl (Src.ofSlice _ Try.underlying22 ⟨w.heap.size, 0, none⟩ 1 1 _ rfl (World.news_of_block (cs := #[.int .u16 (d : Int)]) (t := 33) (fr := (0, 0)) (heap_alloc_new w _)) (by simp [Value.oneCell'])) hb1 hb2 (by simp; omega) ?_; intro A2 c2 w2 own2 hg2 hgr2 hsp2; obtain ⟨g2, off2, d0, rfl, hd0, hgk, hB2, hc0⟩ := add_facts HO.out HB.out own2 hg2; have d7 := hB2.cell 7; have d8 := hB2.cell 8; have d9 := hB2.cell 9; have f7 := hB2.free 7; have f8 := hB2.free 8; have f9 := hB2.free 9; simp [FB.cells] at d7 d8 d9; have O2 := Lib.hid own2; have G2 := Lib.hid hg2; have R2 := Lib.hid hgr2; have S2 := Lib.hid hsp2; have D0 := Lib.hid hd0; have B2 := Lib.hid hB2; clear own2 hg2 hgr2 hsp2 hd0 hB2))
  all_goals go_end0
  all_goals refine ⟨rfl, add_done HB.out hgk B2.out O2.out D0.out (by rw [HV.out]; exact G2.out) (by rw [HV.out]; exact R2.out) (by rw [HV.out]; exact S2.out) _ _ ?_⟩
  all_goals first | (intro h; cases h; done) | (intro h; refine ⟨by simpa using (by assumption : ¬ f.hd = true), ?_⟩; simp at h; omega)
end Go.Proofs.Ytlkmmkphpiamcaa
