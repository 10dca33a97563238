/-
  spec.Queue: Take, Find, FindTime. Conditions: as the queue's. By an AI agent.
-/
import Derived.Test.YtlkmmkphpiamcaaQi
import Derived.IntWalk
namespace Go.Proofs.Ytlkmmkphpiamcaa
open Go.RowKit

theorem blk_mk {w : World} {k : Nat} {t : TypeId} {cs : Array Value} (h : k = w.heap.size) : Blk (w.alloc (.cells cs t)) k t cs := by subst h; exact Blk.new w t cs
theorem OwnsAt.cut {w : World} {base : Nat} {e : TypeId} {size n c : Nat} {ad : Addr} {xs : List Value} (h : OwnsAt w base e size (.slice (some ad) n c) n xs) {k : Nat} (hk : k ≤ n) : OwnsAt w base e size (.slice (some ad) k k) k (xs.take (k * size)) := by
  have := h.take (k := k) (c' := k) hk (Nat.le_refl _) (by obtain ⟨_, _, e, h1, _⟩ := h.shape; injection e; omega)
  simpa using this

theorem stk1 {base g n k c m : Nat} {W w1 : World} {A A1 : Option Addr} {xs ys : List Value} {N c1 b4 b5 : Nat} {l' : List It} {cs4 cs5 : Array Value} (hh : Blk W g 52 #[.slice A n c]) (ho : OwnsAt W base 55 2 (.slice A n c) n xs) (hb : base ≤ W.heap.size) (hlow : base ≤ g)
    (h4 : Blk W b4 55 cs4) (h5 : Blk W b5 55 cs5) (d4 : ∀ k, (Value.slice A n c).ownBlock = some k → k < b4) (h45 : b4 < b5)
    (hg : (W.drewN m).grownBy w1 (Value.slice A k k).ownBlock) (own1 : OwnsAt w1 base 55 2 (.slice A1 N c1) N ys) (hat : (Value.slice A1 N c1).ownBlock = (Value.slice A k k).ownBlock ∨ (Value.slice A1 N c1).ownBlock = some (W.drewN m).heap.size) (hN : l'.length = N) (hys : itCells l' = ys) :
    SQ base (w1.setCell ⟨g, 0, none⟩ (.slice A1 N c1)) g l' A1 c1 ∧ Below base W (w1.setCell ⟨g, 0, none⟩ (.slice A1 N c1)) ∧ Blk (w1.setCell ⟨g, 0, none⟩ (.slice A1 N c1)) b4 55 cs4 ∧ Blk (w1.setCell ⟨g, 0, none⟩ (.slice A1 N c1)) b5 55 cs5 ∧
      w1.cell? ⟨g, 0, none⟩ = some (.slice A n c) ∧ w1.frozen? ⟨g, 0, none⟩ = false ∧ (Value.slice A1 N c1).ownBlock ≠ some b4 := by
  subst hN hys
  have e : (Value.slice A k k).ownBlock = (Value.slice A n c).ownBlock := by cases A <;> rfl
  rw [e] at hg
  have e := e
  have h2 := (hh.drewN m).grown hg (Ne.symm (ho.ne hh (by decide)))
  have hB : Below base W w1 := (below_drewN (Below.refl base W) m).grown hg hb (fun k hk => (ho.lt k hk).1)
  have n4 : b4 ≠ g := h4.unlike hh (by decide)
  have n5 : b5 ≠ g := h5.unlike hh (by decide)
  have k4 := (h4.drewN m).grown hg (fun e => by have := d4 b4 e.symm; omega)
  have k5 := (h5.drewN m).grown hg (fun e => by have := d4 b5 e.symm; omega)
  refine ⟨⟨by simpa using h2.put 0 (.slice A1 l'.length c1), own1.far (p := ⟨g, 0, none⟩) (own1.ne h2 (by decide)) _, hlow⟩, hB.setCell (p := ⟨g, 0, none⟩) hlow _,
    k4.far (p := ⟨g, 0, none⟩) n4 _, k5.far (p := ⟨g, 0, none⟩) n5 _, h2.cell 0, h2.free 0, fun e1 => ?_⟩
  rcases hat with h | h
  · have := d4 b4 (by rw [← e, ← h, e1])
    omega
  · rw [e1] at h
    simp at h
    have := h4.lt
    omega

theorem OwnsAt.lits {w : World} {base : Nat} {e : TypeId} {size n c : Nat} {A : Option Addr} {xs : List Value} (h : OwnsAt w base e size (.slice A n c) n xs) (hn : 0 < n) :
    ∃ g off, A = some ⟨g, off, none⟩ ∧ g < w.heap.size ∧ base ≤ g ∧ ∀ j u, xs[j]? = some u → w.cell? ⟨g, off + j, none⟩ = some u := by
  rcases h.2 with ⟨_, h0⟩ | ⟨g, off, cap, cur, hv, hb, hg, _⟩
  · omega
  · injection hv with hA _ _
    subst hA
    obtain ⟨ad, e, h1, h2, h3⟩ := h.cells hn
    injection e with e
    subst e
    refine ⟨g, off, rfl, h1, h2, fun j u hu => ?_⟩
    have := h3 j u hu
    have hadd : (⟨g, off, none⟩ : Addr).add j = ⟨g, off + j, none⟩ := by unfold Addr.add; split <;> simp_all
    rwa [hadd] at this

theorem SQ.far {base g c b i : Nat} {w : World} {l : List It} {A : Option Addr} {cs : Array Value} (h : SQ base w g l A c) (hb : Blk w b 55 cs) (hn : ∀ N c', (Value.slice A N c').ownBlock ≠ some b) (v : Value) : SQ base (w.setCell ⟨b, i, none⟩ v) g l A c :=
  ⟨h.head.far (p := ⟨b, i, none⟩) (h.head.unlike hb (by decide)) _, h.own.far (p := ⟨b, i, none⟩) (hn _ _) _, h.low⟩

def STakePost (base g k : Nat) (l : List It) (w : World) (e : Ending) (w' : World) : Prop :=
  (∃ v, e = .returned v) ∧ ∃ A' c', SQ base w' g (l.take k ++ l.drop (k + 1)) A' c' ∧ Below base w w'

set_option maxRecDepth 1000000 in
set_option maxHeartbeats 1600000 in
theorem stake_any (base g c k : Nat) (A : Option Addr) (l : List It) (w : World) (h : SQ base w g l A c) (hl : l.length < 60000) (hb : base ≤ w.heap.size) (hk : k < l.length) :
    Calls Try.prog 25 #[.pointer (some ⟨g, 0, none⟩), .int .i64 k] w (STakePost base g k l w) := by
  obtain ⟨hh, ho, hlow⟩ := h
  obtain ⟨i0, hi0, hz0, hz1, hz2⟩ := info_parts info_it
  obtain ⟨n, hn⟩ : ∃ n, l.length = n := ⟨_, rfl⟩
  obtain ⟨x, hx⟩ : ∃ x, l[k]? = some x := ⟨_, List.getElem?_eq_getElem hk⟩
  rw [hn] at hl hk hh ho
  obtain ⟨ga, off, hA, hab, hbb, hcell⟩ := ho.lits (by omega)
  subst hA
  have hnc : n ≤ c := by
    obtain ⟨A', c', e, h1, _⟩ := ho.shape
    injection e with _ _ e
    omega
  have y0 := hcell _ _ (itCells_at hx).1
  have y1 := hcell _ _ (itCells_at hx).2
  rw [← Nat.add_assoc] at y1
  have c0 : w.cell? ⟨g, 0, none⟩ = some (.slice (some ⟨ga, off, none⟩) n c) := hh.cell 0
  have hg := hh.lt
  have hkn : (k : Int) < (n : Int) := by omega
  obtain ⟨o4, ho4⟩ : ∃ o4 : Obj, o4 = .cells #[.int .i64 0, .int .u32 0] 55 := ⟨_, rfl⟩
  obtain ⟨o5, ho5⟩ : ∃ o5 : Obj, o5 = .cells #[.int .i64 x.n, .int .u32 x.t] 55 := ⟨_, rfl⟩
  have HH := Lib.hid ((hh.alloc (.cells #[.int .i64 0, .int .u32 0] 55)).alloc (.cells #[.int .i64 x.n, .int .u32 x.t] 55))
  have HO := Lib.hid ((ho.alloc (.cells #[.int .i64 0, .int .u32 0] 55)).alloc (.cells #[.int .i64 x.n, .int .u32 x.t] 55))
  have HB := Lib.hid (((Below.refl base w).alloc hb (.cells #[.int .i64 0, .int .u32 0] 55)).alloc (by simp; omega) (.cells #[.int .i64 x.n, .int .u32 x.t] 55))
  have H4 := Lib.hid ((Blk.new w 55 #[.int .i64 0, .int .u32 0]).alloc (.cells #[.int .i64 x.n, .int .u32 x.t] 55))
  have H5 : Hid (Blk ((w.alloc (.cells #[.int .i64 0, .int .u32 0] 55)).alloc (.cells #[.int .i64 x.n, .int .u32 x.t] 55)) (w.heap.size + 1) 55 #[.int .i64 x.n, .int .u32 x.t]) := blk_mk (by simp)
  have HN := Lib.hid hn
  have HX := Lib.hid hx
  clear hh ho hn hcell hx ho4 ho5 o4 o5
  go_enter Try.func25, Try.ntmps25
  go_wp2_with fail
  generalize hW : (w.alloc (.cells #[.int .i64 0, .int .u32 0] 55)).alloc (.cells #[.int .i64 x.n, .int .u32 x.t] 55) = W at *
  have hbW : base ≤ W.heap.size := by rw [← hW]; simp; omega
  have hd4 : Hid (∀ k, (Value.slice (some ⟨ga, off, none⟩) n c).ownBlock = some k → k < w.heap.size) := fun k hk => by simp [Value.ownBlock] at hk; omega
  clear hW c0 y0 y1
  generalize w.heap.size = b4 at *
  have c0 : W.cell? ⟨g, 0, none⟩ = some (.slice (some ⟨ga, off, none⟩) n c) := HH.out.cell 0
  have fg0 := HH.out.free 0
  have hgg : g < W.heap.size := HH.out.lt
  obtain ⟨k1, hk1⟩ : ∃ k1, k1 = k + 1 := ⟨_, rfl⟩
  have hk1w : (k : Int) + 1 = (k1 : Int) := by omega
  have hk1n : k1 ≤ n := by omega
  have hk1v : IntKind.i64.wrap (k1 : Int) = (k1 : Int) := IntWalk.i64_in _ (by omega)
  have hk1i : (k1 : Int) ≤ (n : Int) := by omega
  have hkc : k ≤ c := by omega
  have hb1 : k + (n - k1) ≤ maxLen := by simp only [maxLen]; omega
  have hb2 : (k + (n - k1)) * 16 ≤ 140737488355328 := by omega
  obtain ⟨D, hD⟩ : ∃ D, (if c = k1 then some ⟨ga, off, none⟩ else some ⟨ga, off + k1 * 2, none⟩ : Option Addr) = D := ⟨_, rfl⟩
  have hDk : k1 < n → D = (some (⟨ga, off, none⟩ : Addr)).map (·.add (k1 * 2)) := fun h => by
    rw [← hD, if_neg (by omega)]
    simp only [Option.map_some, Option.some.injEq]
    unfold Addr.add
    split <;> simp_all
  have HSRC : Hid (∀ m : Nat, Src Try.prog 2 50 (.slice D (n - k1) (c - k1)) (n - k1) ((itCells l).drop (k1 * 2)) (W.drewN m)) :=
    fun m => (HO.out.drewN m).srcDrop Try.underlying50 (itCells_one l) hk1n hDk
  have HCUT : Hid (∀ m : Nat, OwnsAt (W.drewN m) base 55 2 (.slice (some ⟨ga, off, none⟩) k k) k ((itCells l).take (k * 2))) := fun m => (HO.out.drewN m).cut (by omega)
  have HLEN : Hid ((l.take k ++ l.drop (k + 1)).length = k + (n - k1)) := by
    show _ = _
    have := HN.out
    simp
    omega
  have HYS : Hid (itCells (l.take k ++ l.drop (k + 1)) = (itCells l).take (k * 2) ++ (itCells l).drop (k1 * 2)) := by
    show _ = _
    rw [itCells_append, itCells_take, itCells_drop, hk1]
  have HK1 := Lib.hid hk1
  clear hk1 hDk
  go_region_law
    (refine step_append_at _ rfl (.tmp 20) (.tmp 27) 50 50 rfl base 55 i0 _ 2 16 Try.underlying50 hi0 hz0 hz1 hz2 rfl (by decide) (.slice (some ⟨ga, off, none⟩) k k) k ((itCells l).take (k * 2)) rfl (HCUT.out _) (.slice D (n - k1) (c - k1)) (n - k1) ((itCells l).drop (k1 * 2)) rfl (HSRC.out _) hb1 hb2 hbW ?_; intro A1 c1 w1 own1 hg1 hat1 hsp1; have hall := stk1 HH.out HO.out hbW hlow H4.out H5.out hd4.out (Nat.lt_succ_self _) hg1 own1 hat1 HLEN.out HYS.out; have cg1 := hall.2.2.2.2.1; have fg1 := hall.2.2.2.2.2.1; have HALL := Lib.hid hall; clear hall hg1 hat1 hsp1 own1)
  all_goals
    obtain ⟨r1, r2, r4, r5, _, _, r6⟩ := HALL.out
    have s0 := r5.cell 0
    have s1 := r5.cell 1
    have t0 := r4.cell 0
    have t1 := r4.cell 1
    have f0 := r4.free 0
    have f1 := r4.free 1
    simp at s0 s1 t0 t1
    generalize hV : w1.setCell ⟨g, 0, none⟩ (.slice A1 (k + (n - k1)) c1) = V at *
    have R1 := Lib.hid r1
    have R2 := Lib.hid r2
    have R4 := Lib.hid r4
    have R6 := Lib.hid r6
    clear r1 r2 r4 r5 r6 hV
    go_wp2_with fail
    have u0 : ((V.setCell ⟨b4, 0, none⟩ (.int .i64 x.n)).setCell ⟨b4, 1, none⟩ (.int .u32 x.t)).cell? ⟨b4, 0, none⟩ = some (.int .i64 x.n) := by
      have h := (R4.out.put 0 (.int .i64 x.n)).put 1 (.int .u32 x.t)
      simpa using h.cell 0
    have u1 : ((V.setCell ⟨b4, 0, none⟩ (.int .i64 x.n)).setCell ⟨b4, 1, none⟩ (.int .u32 x.t)).cell? ⟨b4, 1, none⟩ = some (.int .u32 x.t) := by
      have h := (R4.out.put 0 (.int .i64 x.n)).put 1 (.int .u32 x.t)
      simpa using h.cell 1
    have hsq := (R1.out.far (i := 0) R4.out (fun N c' => by have h := R6.out; cases A1 with | none => simp [Value.ownBlock] | some a => simpa [Value.ownBlock] using h) (.int .i64 x.n)).far (i := 1) (R4.out.put 0 (.int .i64 x.n)) (fun N c' => by have h := R6.out; cases A1 with | none => simp [Value.ownBlock] | some a => simpa [Value.ownBlock] using h) (.int .u32 x.t)
    have hbl := ((HB.out.trans R2.out).setCell (p := ⟨b4, 0, none⟩) hb (.int .i64 x.n)).setCell (p := ⟨b4, 1, none⟩) hb (.int .u32 x.t)
    have HSQ := Lib.hid hsq
    have HBL := Lib.hid hbl
    clear hsq hbl
    exact bodyPost_ret (v := .agg #[.int .i64 x.n, .int .u32 x.t]) (by simp [results, Try.results25, go_sem, u0, u1]) rfl ⟨⟨_, rfl⟩, A1, c1, HSQ.out, HBL.out⟩

def sfindPost (l : List It) (s : Nat) (w : World) (e : Ending) (w' : World) : Prop :=
  Below w.heap.size w w' ∧ ((e = .returned (.int .i64 (-1)) ∧ takeBy (fun x => decide (x.n = s)) l = none) ∨
    ∃ a x b, l = a ++ x :: b ∧ takeBy (fun x => decide (x.n = s)) l = some (x, a ++ b) ∧ e = .returned (.int .i64 a.length))
def sfindInv (l : List It) (s k : Nat) (w wr : World) : Prop := Below w.heap.size w wr ∧ ∀ y ∈ l.take k, decide (y.n = s) = false

set_option maxRecDepth 1000000 in
set_option maxHeartbeats 1600000 in
theorem sfind_any (base g c s : Nat) (A : Option Addr) (l : List It) (w : World) (h : SQ base w g l A c) (hl : l.length < 60000) (hle : ∀ y ∈ l, y.n ≤ 65535) :
    Calls Try.prog 23 #[.pointer (some ⟨g, 0, none⟩), .int .u16 s] w (sfindPost l s w) := by
  obtain ⟨hh, ho, hlow⟩ := h
  obtain ⟨n, hn⟩ : ∃ n, l.length = n := ⟨_, rfl⟩
  rw [hn] at hl hh ho
  have c0 : w.cell? ⟨g, 0, none⟩ = some (.slice A n c) := hh.cell 0
  have hg := hh.lt
  have HO := Lib.hid ho
  have HN := Lib.hid hn
  have HLE := Lib.hid hle
  clear hh ho hn hle
  go_enter Try.func23, Try.ntmps23
  go_wp2_with fail
  clear c0
  go_loopw [12] (fun i wr => ∃ k : Nat, k ≤ n ∧ i = .int .i64 k ∧ Hid (sfindInv l s k w wr)) (fun i _ => n - (intOf i).toNat)
  case atStart => exact ⟨0, by omega, rfl, Below.refl _ _, by simp⟩
  case round =>
    obtain ⟨k, hk, rfl, hinv⟩ := hrel
    by_cases hlt : k < n
    · have hkl : k < l.length := by rw [HN.out]; exact hlt
      obtain ⟨x, hx⟩ : ∃ x, l[k]? = some x := ⟨_, List.getElem?_eq_getElem hkl⟩
      obtain ⟨ga, off, hA, hab, hbb, hcell⟩ := HO.out.lits (by omega)
      subst hA
      have y0 := (hinv.out.1.cell (p := ⟨ga, off + k * 2, none⟩) hab).trans (hcell _ _ (itCells_at hx).1)
      have y1 : wr.cell? ⟨ga, off + k * 2 + 1, none⟩ = some (.int .u32 x.t) := (hinv.out.1.cell (p := ⟨ga, off + k * 2 + 1, none⟩) hab).trans (hcell _ _ (itCells_at hx).2)
      have hwsz := hinv.out.1.size
      have hgr : ga < wr.heap.size := by omega
      have hkn : (k : Int) < (n : Int) := by omega
      have hw16 := u16_self x.n (HLE.out x (List.mem_of_getElem? hx))
      have HX := Lib.hid hx
      have HI := Lib.hid hinv.out
      clear hcell hx hinv
      by_cases hp : x.n = s
      · have HPP := Lib.hid hp
        subst hp
        go_wp2_with fail
        go_ret
        refine ⟨HI.out.1.alloc hwsz _, .inr ⟨l.take k, x, l.drop (k + 1), ?_, ?_, ?_⟩⟩
        · have h1 := HX.out
          rw [List.getElem?_eq_getElem hkl] at h1
          injection h1 with h1
          rw [← h1, ← List.drop_eq_getElem_cons hkl, List.take_append_drop]
        · have h1 := HX.out
          rw [List.getElem?_eq_getElem hkl] at h1
          injection h1 with h1
          have e : l = l.take k ++ x :: l.drop (k + 1) := by rw [← h1, ← List.drop_eq_getElem_cons hkl, List.take_append_drop]
          rw [e]
          have h2 := takeBy_hit (p := fun y : It => decide (y.n = x.n)) (a := l.take k) (r := l.drop (k + 1)) (x := x) HI.out.2 (by simp)
          have e2 : List.take k (List.take k l ++ x :: List.drop (k + 1) l) = l.take k := by rw [← e]
          have e3 : List.drop (k + 1) (List.take k l ++ x :: List.drop (k + 1) l) = l.drop (k + 1) := by rw [← e]
          rw [e2, e3]
          exact h2
        · rw [List.length_take, Nat.min_eq_left (by omega)]
          rfl
      · have HPP := Lib.hid hp
        go_wp2_with fail
        refine ⟨⟨k + 1, by omega, by go_num, HI.out.1.alloc hwsz _, fun y hy => ?_⟩, by simp [intOf]; omega⟩
        rw [List.take_add_one, HX.out] at hy
        rcases List.mem_append.1 hy with hy | hy
        · exact HI.out.2 y hy
        · simp at hy
          subst hy
          simpa using HPP.out
    · have hkn : k = n := by omega
      have HI := Lib.hid hinv.out
      have HKN := Lib.hid hkn
      clear hinv hkn
      go_wp2_with fail
      go_ret
      refine ⟨HI.out.1, .inl ⟨rfl, takeBy_none fun y hy => HI.out.2 y ?_⟩⟩
      rw [List.take_of_length_le (by rw [HN.out, HKN.out]; exact Nat.le_refl _)]
      exact hy

def stimePost (l : List It) (s : Nat) (w : World) (e : Ending) (w' : World) : Prop :=
  Below w.heap.size w w' ∧ ((e = .returned (.int .i64 (-1)) ∧ takeBy (fun x => decide (x.t = s)) l = none) ∨
    ∃ a x b, l = a ++ x :: b ∧ takeBy (fun x => decide (x.t = s)) l = some (x, a ++ b) ∧ e = .returned (.int .i64 a.length))
def stimeInv (l : List It) (s k : Nat) (w wr : World) : Prop := Below w.heap.size w wr ∧ ∀ y ∈ l.take k, decide (y.t = s) = false

set_option maxRecDepth 1000000 in
set_option maxHeartbeats 1600000 in
theorem stime_any (base g c s : Nat) (A : Option Addr) (l : List It) (w : World) (h : SQ base w g l A c) (hl : l.length < 60000) (hle : ∀ y ∈ l, y.n ≤ 65535) :
    Calls Try.prog 24 #[.pointer (some ⟨g, 0, none⟩), .int .u32 s] w (stimePost l s w) := by
  obtain ⟨hh, ho, hlow⟩ := h
  obtain ⟨n, hn⟩ : ∃ n, l.length = n := ⟨_, rfl⟩
  rw [hn] at hl hh ho
  have c0 : w.cell? ⟨g, 0, none⟩ = some (.slice A n c) := hh.cell 0
  have hg := hh.lt
  have HO := Lib.hid ho
  have HN := Lib.hid hn
  have HLE := Lib.hid hle
  clear hh ho hn hle
  go_enter Try.func24, Try.ntmps24
  go_wp2_with fail
  clear c0
  go_loopw [12] (fun i wr => ∃ k : Nat, k ≤ n ∧ i = .int .i64 k ∧ Hid (stimeInv l s k w wr)) (fun i _ => n - (intOf i).toNat)
  case atStart => exact ⟨0, by omega, rfl, Below.refl _ _, by simp⟩
  case round =>
    obtain ⟨k, hk, rfl, hinv⟩ := hrel
    by_cases hlt : k < n
    · have hkl : k < l.length := by rw [HN.out]; exact hlt
      obtain ⟨x, hx⟩ : ∃ x, l[k]? = some x := ⟨_, List.getElem?_eq_getElem hkl⟩
      obtain ⟨ga, off, hA, hab, hbb, hcell⟩ := HO.out.lits (by omega)
      subst hA
      have y0 := (hinv.out.1.cell (p := ⟨ga, off + k * 2, none⟩) hab).trans (hcell _ _ (itCells_at hx).1)
      have y1 : wr.cell? ⟨ga, off + k * 2 + 1, none⟩ = some (.int .u32 x.t) := (hinv.out.1.cell (p := ⟨ga, off + k * 2 + 1, none⟩) hab).trans (hcell _ _ (itCells_at hx).2)
      have hwsz := hinv.out.1.size
      have hgr : ga < wr.heap.size := by omega
      have hkn : (k : Int) < (n : Int) := by omega
      have HX := Lib.hid hx
      have HI := Lib.hid hinv.out
      clear hcell hx hinv
      by_cases hp : x.t = s
      · have HPP := Lib.hid hp
        subst hp
        go_wp2_with fail
        go_ret
        refine ⟨HI.out.1.alloc hwsz _, .inr ⟨l.take k, x, l.drop (k + 1), ?_, ?_, ?_⟩⟩
        · have h1 := HX.out
          rw [List.getElem?_eq_getElem hkl] at h1
          injection h1 with h1
          rw [← h1, ← List.drop_eq_getElem_cons hkl, List.take_append_drop]
        · have h1 := HX.out
          rw [List.getElem?_eq_getElem hkl] at h1
          injection h1 with h1
          have e : l = l.take k ++ x :: l.drop (k + 1) := by rw [← h1, ← List.drop_eq_getElem_cons hkl, List.take_append_drop]
          rw [e]
          have h2 := takeBy_hit (p := fun y : It => decide (y.t = x.t)) (a := l.take k) (r := l.drop (k + 1)) (x := x) HI.out.2 (by simp)
          have e2 : List.take k (List.take k l ++ x :: List.drop (k + 1) l) = l.take k := by rw [← e]
          have e3 : List.drop (k + 1) (List.take k l ++ x :: List.drop (k + 1) l) = l.drop (k + 1) := by rw [← e]
          rw [e2, e3]
          exact h2
        · rw [List.length_take, Nat.min_eq_left (by omega)]
          rfl
      · have HPP := Lib.hid hp
        go_wp2_with fail
        refine ⟨⟨k + 1, by omega, by go_num, HI.out.1.alloc hwsz _, fun y hy => ?_⟩, by simp [intOf]; omega⟩
        rw [List.take_add_one, HX.out] at hy
        rcases List.mem_append.1 hy with hy | hy
        · exact HI.out.2 y hy
        · simp at hy
          subst hy
          simpa using HPP.out
    · have hkn : k = n := by omega
      have HI := Lib.hid hinv.out
      have HKN := Lib.hid hkn
      clear hinv hkn
      go_wp2_with fail
      go_ret
      refine ⟨HI.out.1, .inl ⟨rfl, takeBy_none fun y hy => HI.out.2 y ?_⟩⟩
      rw [List.take_of_length_le (by rw [HN.out, HKN.out]; exact Nat.le_refl _)]
      exact hy
end Go.Proofs.Ytlkmmkphpiamcaa
