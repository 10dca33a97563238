/-
  The specification's queue: Push; spec.Apart. No condition. By an AI agent. (Out of the texts Qi, Qj, Qm, Qo: without what these need besides.)
-/
import Derived.Test.YtlkmmkphpiamcaaN
import Derived.Test.YtlkmmkphpiamcaaAt
import Derived.Test.YtlkmmkphpiamcaaQp
namespace Go.Proofs.Ytlkmmkphpiamcaa
open Go.RowKit


def itCells (l : List It) : List Value := l.flatMap fun x => [.int .i64 x.n, .int .u32 x.t]
theorem itCells_len (l : List It) : (itCells l).length = l.length * 2 := by
  induction l with
  | nil => rfl
  | cons x l ih => simp only [itCells, List.flatMap_cons, List.length_append, List.length_cons, List.length_nil] at ih ⊢; omega
theorem itCells_append (a b : List It) : itCells (a ++ b) = itCells a ++ itCells b := by simp [itCells]
theorem itCells_at {l : List It} {j : Nat} {x : It} (h : l[j]? = some x) : (itCells l)[j * 2]? = some (.int .i64 x.n) ∧ (itCells l)[j * 2 + 1]? = some (.int .u32 x.t) := by
  induction l generalizing j with
  | nil => simp at h
  | cons y l ih =>
    cases j with
    | zero => simp at h; subst h; simp [itCells]
    | succ j =>
      have := ih (j := j) (by simpa using h)
      have e : (j + 1) * 2 = j * 2 + 1 + 1 := by omega
      rw [e]
      simpa [itCells] using this
theorem itCells_take (l : List It) (k : Nat) : itCells (l.take k) = (itCells l).take (k * 2) := by
  induction l generalizing k with
  | nil => simp [itCells]
  | cons y l ih =>
    cases k with
    | zero => simp [itCells]
    | succ k =>
      have e : (k + 1) * 2 = k * 2 + 1 + 1 := by omega
      rw [e]
      have := ih k
      simp only [List.take_succ_cons]
      simp only [itCells, List.flatMap_cons] at this ⊢
      simp [this]
theorem itCells_drop (l : List It) (k : Nat) : itCells (l.drop k) = (itCells l).drop (k * 2) := by
  induction l generalizing k with
  | nil => simp [itCells]
  | cons y l ih =>
    cases k with
    | zero => simp [itCells]
    | succ k =>
      have e : (k + 1) * 2 = k * 2 + 1 + 1 := by omega
      rw [e]
      have := ih k
      simp only [List.drop_succ_cons]
      simp only [itCells, List.flatMap_cons] at this ⊢
      simp [this]
theorem itCells_one (l : List It) : ∀ u ∈ itCells l, u.oneCell' = true := by
  intro u hu
  simp only [itCells, List.mem_flatMap] at hu
  obtain ⟨x, _, hx⟩ := hu
  simp at hx
  rcases hx with rfl | rfl <;> rfl
theorem info_it : (Try.prog.info? 55).map (fun i => (i.zero, i.size, i.bytes)) = some (some (.agg #[.int .i64 0, .int .u32 0]), 2, 16) := by kernel_rfl

/-- The spec's queue: the struct at block g, the items in a row of its own. -/
structure SQ (base : Nat) (w : World) (g : Nat) (l : List It) (A : Option Addr) (c : Nat) : Prop where
  head : Blk w g 52 #[.slice A l.length c]
  own : OwnsAt w base 55 2 (.slice A l.length c) l.length (itCells l)
  low : base ≤ g

theorem OwnsAt.ne {w : World} {base : Nat} {e t : TypeId} {size n g : Nat} {v : Value} {xs : List Value} {cs : Array Value} (h : OwnsAt w base e size v n xs) (hb : Blk w g t cs) (ht : t ≠ e) : v.ownBlock ≠ some g := by
  rcases h.2 with ⟨rfl, _⟩ | ⟨g', off, cap, cur, rfl, _, hg, _⟩
  · simp [Value.ownBlock]
  · intro he
    simp only [Value.ownBlock, Option.some.injEq] at he
    subst he
    have h1 : Blk w g' e cur := hg
    exact h1.unlike hb (Ne.symm ht) rfl
theorem own_len {A : Option Addr} {n k c : Nat} : (Value.slice A k c).ownBlock = (Value.slice A n c).ownBlock := by cases A <;> rfl
theorem sp1 {base g n c m : Nat} {W w1 : World} {A : Option Addr} {xs : List Value} {o : Obj} (hh : Blk W g 52 #[.slice A n c]) (ho : OwnsAt W base 55 2 (.slice A n c) n xs) (hb : base ≤ W.heap.size)
    (hg : ((W.drewN m).alloc o).grownBy w1 (some W.heap.size)) : Blk w1 g 52 #[.slice A n c] ∧ OwnsAt w1 base 55 2 (.slice A n c) n xs ∧ Below base W w1 := by
  have hlt := hh.lt
  refine ⟨((hh.drewN m).alloc o).grown hg (by simp; omega), ((ho.drewN m).alloc o).grown hg (.inr fun e => ?_), ?_⟩
  · have := (ho.lt _ e).2
    omega
  · exact ((below_drewN (Below.refl base W) m).alloc hb o).grown hg (by simp; omega) (fun k hk => by simp at hk; omega)
theorem sp2 {base g n k c N c2 : Nat} {W w1 w2 : World} {A A2 : Option Addr} {xs ys : List Value} {l' : List It} (hh : Blk w1 g 52 #[.slice A n c]) (ho : OwnsAt w1 base 55 2 (.slice A n c) n xs) (hb : Below base W w1) (hbW : base ≤ W.heap.size) (hlow : base ≤ g)
    (hg : w1.grownBy w2 (Value.slice A k c).ownBlock) (own2 : OwnsAt w2 base 55 2 (.slice A2 N c2) N ys) (hN : l'.length = N) (hys : itCells l' = ys) :
    SQ base (w2.setCell ⟨g, 0, none⟩ (.slice A2 N c2)) g l' A2 c2 ∧ Below base W (w2.setCell ⟨g, 0, none⟩ (.slice A2 N c2)) := by
  subst hN hys
  rw [own_len (n := n)] at hg
  have h2 := hh.grown hg (Ne.symm (ho.ne hh (by decide)))
  refine ⟨⟨by simpa using h2.put 0 (.slice A2 l'.length c2), own2.far (p := ⟨g, 0, none⟩) (own2.ne h2 (by decide)) _, hlow⟩, ?_⟩
  exact (hb.grown hg (Nat.le_trans hbW hb.size) (fun k hk => (ho.lt k hk).1)).setCell (p := ⟨g, 0, none⟩) hlow _
theorem sp2c {base g n k c : Nat} {w1 w2 : World} {A : Option Addr} {xs : List Value} (hh : Blk w1 g 52 #[.slice A n c]) (ho : OwnsAt w1 base 55 2 (.slice A n c) n xs) (hg : w1.grownBy w2 (Value.slice A k c).ownBlock) :
    w2.cell? ⟨g, 0, none⟩ = some (.slice A n c) ∧ w2.frozen? ⟨g, 0, none⟩ = false := by
  rw [own_len (n := n)] at hg
  have h2 := hh.grown hg (Ne.symm (ho.ne hh (by decide)))
  exact ⟨h2.cell 0, h2.free 0⟩

def SPushPost (base g : Nat) (l : List It) (x : It) (w : World) (e : Ending) (w' : World) : Prop :=
  e = .returned (.tuple #[]) ∧ ∃ i A' c', i ≤ l.length ∧ (∀ y ∈ l.drop i, x.n < y.n) ∧ (0 < i → ∀ y, l[i - 1]? = some y → y.n ≤ x.n) ∧ SQ base w' g (l.take i ++ x :: l.drop i) A' c' ∧ Below base w w'

set_option maxRecDepth 1000000 in
set_option maxHeartbeats 1600000 in
theorem spush_any (base g c : Nat) (A : Option Addr) (l : List It) (x : It) (w : World) (h : SQ base w g l A c) (hl : l.length < 60000) (hb : base ≤ w.heap.size) :
    Calls Try.prog 22 #[.pointer (some ⟨g, 0, none⟩), .agg #[.int .i64 x.n, .int .u32 x.t]] w (SPushPost base g l x w) := by
  obtain ⟨hh, ho, hlow⟩ := h
  have c0 : w.cell? ⟨g, 0, none⟩ = some (.slice A l.length c) := hh.cell 0
  have hg := hh.lt
  obtain ⟨n, hn⟩ : ∃ n, l.length = n := ⟨_, rfl⟩
  rw [hn] at c0 hl
  have HH := Lib.hid hh
  have HO := Lib.hid ho
  have HN := Lib.hid hn
  clear hh ho hn
  have ht : (Blk (w.alloc (.cells #[.int .i64 x.n, .int .u32 x.t] 55)) w.heap.size 55 #[.int .i64 x.n, .int .u32 x.t]) := Blk.new _ _ _
  have HT := Lib.hid ht
  have HH1 := Lib.hid (HH.out.alloc (.cells #[.int .i64 x.n, .int .u32 x.t] 55))
  have HO1 := Lib.hid (HO.out.alloc (.cells #[.int .i64 x.n, .int .u32 x.t] 55))
  have HB1 := Lib.hid ((Below.refl base w).alloc hb (.cells #[.int .i64 x.n, .int .u32 x.t] 55))
  have hbW : base ≤ (w.alloc (.cells #[.int .i64 x.n, .int .u32 x.t] 55)).heap.size := by simp; omega
  clear ht HH HO
  go_enter Try.func22, Try.ntmps22
  go_wp2_with fail
  generalize hW : w.alloc (.cells #[.int .i64 x.n, .int .u32 x.t] 55) = W at *
  clear hW c0
  have c0 : W.cell? ⟨g, 0, none⟩ = some (.slice A n c) := by have := HH1.out.cell 0; rw [HN.out] at this; exact this
  have x0 : W.cell? ⟨w.heap.size, 0, none⟩ = some (.int .i64 x.n) := HT.out.cell 0
  have x1 : W.cell? ⟨w.heap.size, 1, none⟩ = some (.int .u32 x.t) := HT.out.cell 1
  have hxlt : w.heap.size < W.heap.size := HT.out.lt
  generalize w.heap.size = xb at *
  go_loopw [4] (fun v wr => ∃ k m : Nat, k ≤ n ∧ v = .int .i64 k ∧ Hid (wr = W.drewN m) ∧ Hid (∀ y ∈ l.drop k, x.n < y.n)) (fun v _ => (intOf v).toNat)
  case atStart => exact ⟨n, 0, Nat.le_refl _, rfl, rfl, by show ∀ y ∈ l.drop n, _; rw [← HN.out]; simp⟩
  case round =>
    obtain ⟨k, m, hk, rfl, hw, hd⟩ := hrel
    obtain rfl := hw.out
    clear hw
    have hnc : n ≤ c := by
      obtain ⟨A', c', e, h1, _⟩ := HO1.out.shape
      injection e with _ _ e
      have := HN.out
      omega
    by_cases hex : 0 < k ∧ ∀ y, l[k - 1]? = some y → x.n < y.n
    · obtain ⟨hk0, hlt⟩ := hex
      obtain ⟨j, rfl⟩ : ∃ j, k = j + 1 := ⟨k - 1, by omega⟩
      have hj : j < l.length := by rw [HN.out]; omega
      obtain ⟨y, hy⟩ : ∃ y, l[j]? = some y := ⟨_, List.getElem?_eq_getElem hj⟩
      obtain ⟨ad, hA, hab, hbb, hcell⟩ := HO1.out.cells (by omega)
      subst hA
      have y0 := hcell _ _ (itCells_at hy).1
      have hij : (j : Int) < (n : Int) := by omega
      have hjw : ((j + 1 : Nat) : Int) - 1 = (j : Int) := by omega
      have hjw2 : (j : Int) + 1 - 1 = (j : Int) := by omega
      have hjt : ((j : Int)).toNat = j := by omega
      have HY := Lib.hid hy
      have hgt : x.n < y.n := hlt y hy
      clear hcell hy hlt
      go_wp2_with fail
      go_quiet (fail)
      go_wp2_with fail
      refine ⟨⟨j, m + nq, by omega, by go_num, rfl, ?_⟩, by simp [intOf]⟩
      intro z hz
      rw [List.drop_eq_getElem_cons hj] at hz
      rcases List.mem_cons.1 hz with rfl | hz
      · have h1 := HY.out
        rw [List.getElem?_eq_getElem hj] at h1
        injection h1 with h1
        rw [h1]
        exact hgt
      · exact hd.out z hz
    · obtain ⟨i0, hi0, hz0, hz1, hz2⟩ := info_parts info_it
      have hgg : g < W.heap.size := HH1.out.lt
      have hb1 : 1 + (n - k) ≤ maxLen := by simp only [maxLen]; omega
      have hb2 : (1 + (n - k)) * 16 ≤ 140737488355328 := by omega
      have hb3 : k + (1 + (n - k)) ≤ maxLen := by simp only [maxLen]; omega
      have hb4 : (k + (1 + (n - k))) * 16 ≤ 140737488355328 := by omega
      have hkc : k ≤ c := by omega
      have fg0 := HH1.out.free 0
      obtain ⟨D, hD⟩ : ∃ D, (if c = k then A else A.map (·.add (k * 2))) = D := ⟨_, rfl⟩
      have hDk : k < n → D = A.map (·.add (k * 2)) := fun h => by rw [← hD, if_neg (by omega)]
      have HDK := Lib.hid hDk
      clear hDk
      have HH2 := Lib.hid (show Blk W g 52 #[.slice A n c] by have := HH1.out; rwa [HN.out] at this)
      have HO2 := Lib.hid (show OwnsAt W base 55 2 (.slice A n c) n (itCells l) by have := HO1.out; rwa [HN.out] at this)
      have ca : ∀ (m : Nat) (o : Obj), ((W.drewN m).alloc o).cell? ⟨g, 0, none⟩ = some (.slice A n c) := fun m o => ((HH2.out.drewN m).alloc o).cell 0
      have HSRC : Hid (∀ (m : Nat) (o : Obj), Src Try.prog 2 50 (.slice D (n - k) (c - k)) (n - k) ((itCells l).drop (k * 2)) ((W.drewN m).alloc o)) :=
        fun m o => ((HO2.out.drewN m).alloc o).srcDrop Try.underlying50 (itCells_one l) hk HDK.out
      have HBA : Hid (∀ (m : Nat) (o : Obj), base ≤ ((W.drewN m).alloc o).heap.size) := fun m o => by simp; omega
      have HLEN : Hid ((l.take k ++ x :: l.drop k).length = k + (1 + (n - k))) := by
        show _ = _
        have := HN.out
        simp
        omega
      have HYS : Hid (itCells (l.take k ++ x :: l.drop k) = (itCells l).take (k * 2) ++ ([.int .i64 x.n, .int .u32 x.t] ++ (itCells l).drop (k * 2))) := by
        show _ = _
        rw [itCells_append, itCells_take, show x :: l.drop k = [x] ++ l.drop k from rfl, itCells_append, itCells_drop]
        rfl
      have HONE : Hid (∀ u ∈ ([.int .i64 x.n, .int .u32 x.t] ++ (itCells l).drop (k * 2) : List Value), u.oneCell' = true) := by
        intro u hu
        rcases List.mem_append.1 hu with hu | hu
        · simp at hu
          rcases hu with rfl | rfl <;> rfl
        · exact itCells_one l u (List.mem_of_mem_drop hu)
      have HEX := Lib.hid hex
      have HKL : Hid (k ≤ l.length) := by show k ≤ _; rw [HN.out]; exact hk
      clear hex
      by_cases hk0 : 0 < k
      · obtain ⟨j, hkj⟩ : ∃ j, k = j + 1 := ⟨k - 1, by omega⟩
        have hj : j < l.length := by rw [HN.out]; omega
        obtain ⟨y, hy⟩ : ∃ y, l[j]? = some y := ⟨_, List.getElem?_eq_getElem hj⟩
        have hkj1 : k - 1 = j := by omega
        have HPL : Hid (0 < k → ∀ y, l[k - 1]? = some y → y.n ≤ x.n) := by
          intro _ z hz
          rw [hkj1] at hz
          by_cases hxz : x.n < z.n
          · refine absurd ⟨by omega, fun y' hy' => ?_⟩ HEX.out
            rw [hkj1, hz] at hy'
            injection hy' with hy2
            rw [← hy2]
            exact hxz
          · omega
        have hyx : y.n ≤ x.n := HPL.out (by omega) y (by rw [hkj1]; exact hy)
        obtain ⟨ad, hA, hab, hbb, hcell⟩ := HO2.out.cells (by omega)
        subst hA
        simp only [Option.map_some] at hD
        have y0 := hcell _ _ (itCells_at hy).1
        have hij : (j : Int) < (n : Int) := by omega
        have hjw : (k : Int) - 1 = (j : Int) := by omega
        have hjt : ((j : Int)).toNat = j := by omega
        have hnot : ¬ (x.n < y.n) := by omega
        have hnotd : decide (x.n < y.n) = false := by simpa using hnot
        have hk0' : decide (0 < k) = true := by simpa using hk0
        clear hcell hy hkj hkj1
        go_wp2_with fail
        go_quiet (fail)
        go_wp2_with fail
        go_region_law
          (first
            | (refine step_append_at _ rfl (.tmp 36) (.tmp 42) 50 50 rfl base 55 i0 _ 2 16 Try.underlying50 hi0 hz0 hz1 hz2 rfl (by decide) (.slice (some ⟨W.heap.size, 0, none⟩) 1 1) 1 [.int .i64 x.n, .int .u32 x.t] rfl (OwnsAt.block (cs := #[.int .i64 x.n, .int .u32 x.t]) (heap_alloc_new _ _) hbW rfl (by decide)) (.slice D (n - k) (c - k)) (n - k) ((itCells l).drop (k * 2)) rfl (HSRC.out _ _) hb1 hb2 (HBA.out _ _) ?_; intro A1 c1 w1 own1 hg1 hat1 hsp1; obtain ⟨hbg, hbo, hbb⟩ := sp1 HH2.out HO2.out hbW hg1; have cg1 : w1.cell? ⟨g, 0, none⟩ = some (.slice (some ad) n c) := hbg.cell 0; have HBG := Lib.hid hbg; have HBO := Lib.hid hbo; have HBB := Lib.hid hbb; have HOW := Lib.hid own1; clear hbg hbo hbb hg1 hat1 hsp1 own1)
            | (refine step_append_at _ rfl (.tmp 34) (.tmp 43) 50 50 rfl base 55 i0 _ 2 16 Try.underlying50 hi0 hz0 hz1 hz2 rfl (by decide) (.slice (some ad) k c) k ((itCells l).take (k * 2)) rfl (HBO.out.first hk) (.slice A1 (1 + (n - k)) c1) (1 + (n - k)) ([.int .i64 x.n, .int .u32 x.t] ++ (itCells l).drop (k * 2)) rfl (HOW.out.src Try.underlying50 HONE.out) hb3 hb4 (Nat.le_trans hbW HBB.out.size) ?_; intro A2 c2 w2 own2 hg2 hat2 hsp2; obtain ⟨cg2, fg2⟩ := sp2c HBG.out HBO.out hg2; have HG2 := Lib.hid hg2; have HOW2 := Lib.hid own2; clear hat2 hsp2 hg2 own2))
        all_goals
          go_wp2_with fail
          go_end0
          obtain ⟨r1, r2⟩ := sp2 HBG.out HBO.out HBB.out hbW hlow HG2.out HOW2.out HLEN.out HYS.out
          exact ⟨rfl, k, A2, c2, HKL.out, hd.out, HPL.out, r1, HB1.out.trans r2⟩
      · have hk0' : decide (0 < k) = false := by simpa using hk0
        have HPL : Hid (0 < k → ∀ y, l[k - 1]? = some y → y.n ≤ x.n) := fun h => absurd h hk0
        go_wp2_with fail
        go_quiet (fail)
        go_wp2_with fail
        go_region_law
          (first
            | (refine step_append_at _ rfl (.tmp 36) (.tmp 42) 50 50 rfl base 55 i0 _ 2 16 Try.underlying50 hi0 hz0 hz1 hz2 rfl (by decide) (.slice (some ⟨W.heap.size, 0, none⟩) 1 1) 1 [.int .i64 x.n, .int .u32 x.t] rfl (OwnsAt.block (cs := #[.int .i64 x.n, .int .u32 x.t]) (heap_alloc_new _ _) hbW rfl (by decide)) (.slice D (n - k) (c - k)) (n - k) ((itCells l).drop (k * 2)) rfl (HSRC.out _ _) hb1 hb2 (HBA.out _ _) ?_; intro A1 c1 w1 own1 hg1 hat1 hsp1; obtain ⟨hbg, hbo, hbb⟩ := sp1 HH2.out HO2.out hbW hg1; have cg1 : w1.cell? ⟨g, 0, none⟩ = some (.slice A n c) := hbg.cell 0; have HBG := Lib.hid hbg; have HBO := Lib.hid hbo; have HBB := Lib.hid hbb; have HOW := Lib.hid own1; clear hbg hbo hbb hg1 hat1 hsp1 own1)
            | (refine step_append_at _ rfl (.tmp 34) (.tmp 43) 50 50 rfl base 55 i0 _ 2 16 Try.underlying50 hi0 hz0 hz1 hz2 rfl (by decide) (.slice A k c) k ((itCells l).take (k * 2)) rfl (HBO.out.first hk) (.slice A1 (1 + (n - k)) c1) (1 + (n - k)) ([.int .i64 x.n, .int .u32 x.t] ++ (itCells l).drop (k * 2)) rfl (HOW.out.src Try.underlying50 HONE.out) hb3 hb4 (Nat.le_trans hbW HBB.out.size) ?_; intro A2 c2 w2 own2 hg2 hat2 hsp2; obtain ⟨cg2, fg2⟩ := sp2c HBG.out HBO.out hg2; have HG2 := Lib.hid hg2; have HOW2 := Lib.hid own2; clear hat2 hsp2 hg2 own2))
        all_goals
          go_wp2_with fail
          go_end0
          obtain ⟨r1, r2⟩ := sp2 HBG.out HBO.out HBB.out hbW hlow HG2.out HOW2.out HLEN.out HYS.out
          exact ⟨rfl, k, A2, c2, HKL.out, hd.out, HPL.out, r1, HB1.out.trans r2⟩

theorem blk_mk {w : World} {k : Nat} {t : TypeId} {cs : Array Value} (h : k = w.heap.size) : Blk (w.alloc (.cells cs t)) k t cs := by subst h; exact Blk.new w t cs
theorem OwnsAt.lits {w : World} {base : Nat} {e : TypeId} {size n c : Nat} {A : Option Addr} {xs : List Value} (h : OwnsAt w base e size (.slice A n c) n xs) (hn : 0 < n) :
    ∃ g off, A = some ⟨g, off, none⟩ ∧ g < w.heap.size ∧ base ≤ g ∧ ∀ j u, xs[j]? = some u → w.cell? ⟨g, off + j, none⟩ = some u := by
  rcases h.2 with ⟨_, h0⟩ | ⟨g, off, cap, cur, hv, hb, hg, _⟩
  · omega
  · injection hv with hA _ _
    subst hA
    obtain ⟨ad, e, h1, h2, h3⟩ := h.cells hn
    injection e with e
    subst e
    refine ⟨g, off, rfl, h1, h2, fun j u hu => ?_⟩
    have := h3 j u hu
    have hadd : (⟨g, off, none⟩ : Addr).add j = ⟨g, off + j, none⟩ := by unfold Addr.add; split <;> simp_all
    rwa [hadd] at this


def Distinct (xs : List Int) : Prop := ∀ (k : Nat) x, xs[k]? = some x → x ∉ xs.take k

def ApartPost (xs : List Int) (w : World) (e : Ending) (w' : World) : Prop := w' = w ∧ ∃ b : Bool, e = .returned (.bool b) ∧ (b = true → Distinct xs)

set_option maxHeartbeats 800000 in
theorem apart_any (n c B : Nat) (A : Option Addr) (xs : List Int) (w : World) (hr : Reads w B 1 A n (xs.map (Value.int .i64))) (hn : n ≤ 9223372036854775807) (hnc : n ≤ c) :
    Calls Try.prog 20 #[.slice A n c] w (ApartPost xs w) := by
  have hlen : xs.length = n := by simpa using hr.1
  have HR := Lib.hid hr
  have HLEN := Lib.hid hlen
  clear hr hlen
  go_enter Try.func20, Try.ntmps20
  go_wp2_with fail
  go_loop [7] (fun i => ∃ k : Nat, i = .int .i64 k ∧ k ≤ n ∧ Hid (∀ (j : Nat) x, j < k → xs[j]? = some x → x ∉ xs.take j)) (fun i => n - (intOf i).toNat)
  case atStart => exact ⟨0, rfl, by omega, fun j x hj => by omega⟩
  case round =>
    obtain ⟨k, rfl, hk, hno⟩ := hrel
    by_cases hlt : k < n
    · obtain ⟨ad, x, rfl, hab, hx, hc⟩ := i64_at HR.out hlt
      have hrt := HR.out.take (k := k) (by omega)
      rw [Nat.mul_one, List.map_take.symm] at hrt
      have HRT := Lib.hid hrt
      have HX := Lib.hid hx
      have hkc : k ≤ c := by omega
      clear hx hrt
      go_wp2_with fail
      refine (within_any k c B (some ad) (xs.take k) x _ HRT.out (by omega)).mono ?_
      rintro e w' ⟨rfl, rfl⟩
      by_cases hm : x ∈ xs.take k
      · have hd : decide (x ∈ xs.take k) = true := by simp [hm]
        rw [hd]
        clear hm hd
        go_wp2_with fail
        go_ret
        exact ⟨rfl, false, rfl, by simp⟩
      · have hd : decide (x ∈ xs.take k) = false := by simp [hm]
        rw [hd]
        have HM := Lib.hid hm
        clear hm hd
        go_wp2_with fail
        refine ⟨⟨k + 1, by go_num, by omega, fun j y hj hy => ?_⟩, by simp [intOf]; omega⟩
        rcases Nat.lt_or_ge j k with h | h
        · exact hno.out j y h hy
        · obtain rfl : j = k := by omega
          rw [HX.out] at hy
          injection hy with hy
          subst hy
          exact HM.out
    · obtain rfl : k = n := by omega
      go_wp2_with fail
      go_ret
      refine ⟨rfl, true, rfl, fun _ j y hy => ?_⟩
      refine hno.out j y ?_ hy
      rw [← HLEN.out]
      exact (List.getElem?_eq_some_iff.1 hy).1

def I64n (l : List Nat) : List Value := l.map fun q : Nat => Value.int .i64 (q : Int)
theorem distinct_nodup {l : List Nat} (h : Distinct (l.map fun q : Nat => (q : Int))) : l.Nodup := by
  rw [List.nodup_iff_pairwise_ne, List.pairwise_iff_getElem]
  intro i j hi hj hij e
  have h1 := h j (l[j] : Int) (by simp [hj])
  apply h1
  rw [← e, ← List.map_take]
  exact List.mem_map.2 ⟨l[i], List.mem_take_iff_getElem.2 ⟨i, by omega, rfl⟩, rfl⟩
end Go.Proofs.Ytlkmmkphpiamcaa
