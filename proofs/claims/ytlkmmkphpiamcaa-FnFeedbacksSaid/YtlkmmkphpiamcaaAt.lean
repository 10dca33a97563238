/-
  append onto a slice that lies anywhere in a row of the call's own (a part of it, too), out of whatever source. No condition. By an AI agent.
-/
import Derived.Deep.AppendSrc
import Derived.Maps.AppendAt
import Derived.Laws.OwnMore
import Derived.RegionTactic
import Derived.WalkKit
import Derived.Deep.Draws
namespace Go.Proofs.Ytlkmmkphpiamcaa
open Go.RowKit

/-- A slice of n elements that lies in a row from block 'base' on, not frozen, with room up to its capacity; or nil. -/
def OwnsAt (w : World) (base : Nat) (e : TypeId) (size : Nat) (v : Value) (n : Nat) (xs : List Value) : Prop :=
  xs.length = n * size ∧
  ((v = .slice none 0 0 ∧ n = 0) ∨
   ∃ g off cap cur, v = .slice (some ⟨g, off, none⟩) n cap ∧ base ≤ g ∧ w.heap[g]? = some (.cells cur e (0, 0)) ∧ n ≤ cap ∧ cap ≤ maxLen ∧ off + cap * size ≤ cur.size ∧ (cur.toList.drop off).take (n * size) = xs)

section
variable {w w' : World} {base : Nat} {e : TypeId} {size : Nat} {v : Value} {n : Nat} {xs : List Value}
theorem OwnsAt.nil (w : World) (base : Nat) (e : TypeId) (size : Nat) : OwnsAt w base e size (.slice none 0 0) 0 [] := ⟨by simp, .inl ⟨rfl, rfl⟩⟩
theorem OwnsAt.ofRow (h : w.ownsRow base e size v n xs) : OwnsAt w base e size v n xs := by
  refine ⟨h.1, ?_⟩
  rcases h.2 with h | ⟨g, cap, cur, hv, hb, hg, hn, hm, hs, ht⟩
  · exact .inl h
  · exact .inr ⟨g, 0, cap, cur, hv, hb, hg, hn, hm, by omega, by simpa using ht⟩
theorem OwnsAt.lt (h : OwnsAt w base e size v n xs) : ∀ k, v.ownBlock = some k → base ≤ k ∧ k < w.heap.size := by
  intro k hk
  rcases h.2 with ⟨rfl, _⟩ | ⟨g, off, cap, cur, rfl, hb, hg, _⟩
  · simp [Value.ownBlock] at hk
  · simp only [Value.ownBlock, Option.some.injEq] at hk
    subst hk
    refine ⟨hb, ?_⟩
    rcases Nat.lt_or_ge g w.heap.size with h1 | h1
    · exact h1
    · rw [Array.getElem?_eq_none h1] at hg
      cases hg
theorem OwnsAt.shape (h : OwnsAt w base e size v n xs) : ∃ A c, v = .slice A n c ∧ n ≤ c ∧ c ≤ maxLen := by
  rcases h.2 with ⟨h1, h2⟩ | ⟨g, off, cap, cur, hv, _, _, h3, h4, _⟩
  · exact ⟨none, 0, by rw [h1, h2], by omega, by simp [maxLen]⟩
  · exact ⟨_, _, hv, h3, h4⟩
theorem OwnsAt.keep (h : OwnsAt w base e size v n xs) (hk : ∀ g, base ≤ g → v.ownBlock = some g → w'.heap[g]? = w.heap[g]?) : OwnsAt w' base e size v n xs := by
  refine ⟨h.1, ?_⟩
  rcases h.2 with h | ⟨g, off, cap, cur, rfl, hb, hg, r⟩
  · exact .inl h
  · exact .inr ⟨g, off, cap, cur, rfl, hb, (hk g hb rfl).trans hg, r⟩
theorem OwnsAt.grown {row : Option Nat} (h : OwnsAt w base e size v n xs) (hg : w.grownBy w' row) (hne : v.ownBlock = none ∨ v.ownBlock ≠ row) : OwnsAt w' base e size v n xs :=
  h.keep fun g _ hv => hg.block g (h.lt g hv).2 (by rcases hne with h1 | h1 <;> rw [hv] at h1 <;> simp_all)
theorem OwnsAt.alloc (h : OwnsAt w base e size v n xs) (o : Obj) : OwnsAt (w.alloc o) base e size v n xs :=
  h.keep fun g _ hv => Below.heap_alloc w o g (h.lt g hv).2
theorem OwnsAt.drew (h : OwnsAt w base e size v n xs) : OwnsAt w.drew base e size v n xs := h.keep fun _ _ _ => rfl
theorem OwnsAt.drewN (h : OwnsAt w base e size v n xs) (k : Nat) : OwnsAt (w.drewN k) base e size v n xs := h.keep fun _ _ _ => rfl
theorem OwnsAt.far (h : OwnsAt w base e size v n xs) {p : Addr} (hp : v.ownBlock ≠ some p.block) (u : Value) : OwnsAt (w.setCell p u) base e size v n xs :=
  h.keep fun g _ hv => Below.heap_setCell w p u g (fun e => hp (e ▸ hv))
theorem OwnsAt.low (h : OwnsAt w base e size v n xs) {b' : Nat} (hb : b' ≤ base) : OwnsAt w b' e size v n xs := by
  refine ⟨h.1, ?_⟩
  rcases h.2 with h | ⟨g, off, cap, cur, rfl, h1, r⟩
  · exact .inl h
  · exact .inr ⟨g, off, cap, cur, rfl, Nat.le_trans hb h1, r⟩
/-- The cells. -/
theorem OwnsAt.cells {A : Option Addr} {c : Nat} (h : OwnsAt w base e size (.slice A n c) n xs) (hn : 0 < n) : ∃ ad : Addr, A = some ad ∧ ad.block < w.heap.size ∧ base ≤ ad.block ∧ ∀ j u, xs[j]? = some u → w.cell? (ad.add j) = some u := by
  rcases h.2 with ⟨_, h0⟩ | ⟨g, off, cap, cur, hv, hb, hg, _, _, hf, ht⟩
  · omega
  · injection hv with hA _ _
    subst hA
    refine ⟨_, rfl, ?_, hb, fun j u hu => ?_⟩
    · exact (h.lt g rfl).2
    · have hadd : (⟨g, off, none⟩ : Addr).add j = ⟨g, off + j, none⟩ := by unfold Addr.add; split <;> simp_all
      rw [hadd, cell_of_row w g (off + j) cur e (0, 0) hg]
      rw [← ht, List.getElem?_take] at hu
      split at hu
      · rw [List.getElem?_drop] at hu
        simpa using hu
      · cases hu
/-- A cut: the first k. -/
theorem OwnsAt.take {A : Option Addr} {c : Nat} (h : OwnsAt w base e size (.slice A n c) n xs) {k c' : Nat} (hk : k ≤ n) (h1 : k ≤ c') (h2 : c' ≤ c) : OwnsAt w base e size (.slice A k (if A = none then 0 else c')) k (xs.take (k * size)) := by
  have hm : k * size ≤ n * size := Nat.mul_le_mul_right _ hk
  refine ⟨by rw [List.length_take, h.1]; omega, ?_⟩
  rcases h.2 with ⟨hv, h0⟩ | ⟨g, off, cap, cur, hv, hb, hg, hc, hx, hf, ht⟩
  · injection hv with hA _ hcc
    subst hA
    obtain rfl : k = 0 := by omega
    exact .inl ⟨by simp, rfl⟩
  · injection hv with hA _ hcc
    subst hA hcc
    have hm2 : c' * size ≤ c * size := Nat.mul_le_mul_right _ h2
    refine .inr ⟨g, off, c', cur, by simp, hb, hg, h1, by omega, by omega, ?_⟩
    rw [← ht, List.take_take, Nat.min_eq_left hm]
/-- The first k, at the same capacity. -/
theorem OwnsAt.first {A : Option Addr} {c : Nat} (h : OwnsAt w base e size (.slice A n c) n xs) {k : Nat} (hk : k ≤ n) : OwnsAt w base e size (.slice A k c) k (xs.take (k * size)) := by
  have hm : k * size ≤ n * size := Nat.mul_le_mul_right _ hk
  refine ⟨by rw [List.length_take, h.1]; omega, ?_⟩
  rcases h.2 with ⟨hv, h0⟩ | ⟨g, off, cap, cur, hv, hb, hg, hc, hx, hf, ht⟩
  · injection hv with hA _ hcc
    subst hA hcc
    obtain rfl : k = 0 := by omega
    exact .inl ⟨rfl, rfl⟩
  · injection hv with hA _ hcc
    subst hA hcc
    exact .inr ⟨g, off, c, cur, rfl, hb, hg, by omega, hx, hf, by rw [← ht, List.take_take, Nat.min_eq_left hm]⟩
/-- A new block is owned whole. -/
theorem OwnsAt.block {b : Nat} {cs : Array Value} (h : w.heap[b]? = some (.cells cs e (0, 0))) (hb : base ≤ b) (hs : cs.size = n * size) (hm : n ≤ maxLen) : OwnsAt w base e size (.slice (some ⟨b, 0, none⟩) n n) n cs.toList := by
  refine ⟨by simpa using hs, .inr ⟨b, 0, n, cs, rfl, hb, h, Nat.le_refl _, hm, by omega, ?_⟩⟩
  rw [List.drop_zero, ← hs]
  exact List.take_of_length_le (by simp)
end

section
variable {P : Program} (w : World)

/-- What is owned may be appended. -/
theorem OwnsAt.src {w : World} {base : Nat} {e e' : TypeId} {size n c : Nat} {A : Option Addr} {xs : List Value} (h : OwnsAt w base e size (.slice A n c) n xs) {tx : TypeId} (hk : P.underlying tx = some (.slice e')) (h1 : ∀ u ∈ xs, u.oneCell' = true) :
    Src P size tx (.slice A n c) n xs w := by
  cases n with
  | zero =>
    have hx : xs = [] := List.eq_nil_of_length_eq_zero (by simpa using h.1)
    subst hx
    cases A with
    | none => exact Src.ofNil w hk c
    | some a => exact Src.ofSlice w hk a 0 c [] (by simp) (by simp) (by simp)
  | succ n =>
    obtain ⟨ad, rfl, _, _, hc⟩ := h.cells (by omega)
    exact Src.ofSlice w hk ad _ c xs h.1 hc h1
/-- What lies behind the first k may be appended: the value in whatever form. -/
theorem OwnsAt.srcDrop {w : World} {base : Nat} {e e' : TypeId} {size n c : Nat} {A : Option Addr} {xs : List Value} (h : OwnsAt w base e size (.slice A n c) n xs) {tx : TypeId} (hk : P.underlying tx = some (.slice e')) (h1 : ∀ u ∈ xs, u.oneCell' = true)
    {k : Nat} (hkn : k ≤ n) {A' : Option Addr} {c' : Nat} (hA : k < n → A' = A.map (·.add (k * size))) : Src P size tx (.slice A' (n - k) c') (n - k) (xs.drop (k * size)) w := by
  have hl : (xs.drop (k * size)).length = (n - k) * size := by rw [List.length_drop, h.1, Nat.sub_mul]
  by_cases hlt : k < n
  · obtain ⟨ad, rfl, _, _, hc⟩ := h.cells (by omega)
    rw [hA hlt]
    refine Src.ofSlice w hk _ _ c' _ hl (fun j u hu => ?_) (fun u hu => h1 u (List.mem_of_mem_drop hu))
    have hadd : (ad.add (k * size)).add j = ad.add (k * size + j) := by
      unfold Addr.add
      by_cases hi : k * size = 0 <;> by_cases hj : j = 0 <;> simp [hi, hj, Nat.add_assoc]
    rw [hadd]
    exact hc _ u (by rw [← hu, List.getElem?_drop])
  · have e0 : n - k = 0 := by omega
    rw [e0] at hl ⊢
    have hx : xs.drop (k * size) = [] := List.eq_nil_of_length_eq_zero (by simpa using hl)
    rw [hx]
    cases A' with
    | none => exact Src.ofNil w hk c'
    | some a => exact Src.ofSlice w hk a 0 c' [] (by simp) (by simp) (by simp)

theorem run_append_room_at (t tx ty e : TypeId) (i : TypeInfo) (ht : P.underlying t = some (.slice e)) (hi : P.info? e = some i) (g off sLen sCap : Nat) (cur : Array Value) (hg : w.heap[g]? = some (.cells cur e (0, 0)))
    (x : Value) (n : Nat) (news : List Value) (hs : Src P i.size tx x n news w)
    (hroom : sLen + n ≤ sCap) (hfit : off + sLen * i.size + news.length ≤ cur.size) :
    (Builtin.append_ #[t, tx] ty #[.slice (some ⟨g, off, none⟩) sLen sCap, x]).run P w = .ok (.slice (some ⟨g, off, none⟩) (sLen + n) sCap)
      (w.setRow g (cur.toList.take (off + sLen * i.size) ++ news ++ cur.toList.drop (off + sLen * i.size + news.length)).toArray) := by
  have hst := run_storeCells_at P g (off + sLen * i.size) e news 0 cur w hg (by simpa using hfit) hs.one
  simp only [Nat.add_zero] at hst
  rcases hs.kind with ⟨e', hk⟩ | hk <;> simp [Builtin.append_, run_underlying ht, run_underlying hk, sizeOf, typeInfo, hi, hs.len, hroom, hs.cells, Addr.add_lit, hst]

/-- What lies behind the length may turn, and new blocks; nothing else. -/
def Spared (w w' : World) (v : Value) (size : Nat) : Prop :=
  ∀ b o u, w.cell? ⟨b, o, none⟩ = some u → (∀ g off n c, v = .slice (some ⟨g, off, none⟩) n c → b = g → o < off + n * size) → w'.cell? ⟨b, o, none⟩ = some u

theorem run_append_at (base : Nat) (t tx ty e : TypeId) (i : TypeInfo) (z : Value) (size bytes : Nat) (ht : P.underlying t = some (.slice e)) (hi : P.info? e = some i) (hz : i.zero = some z)
    (hsize : i.size = size) (hby : i.bytes = bytes) (hzs : z.cells.size = size) (hsz : 0 < size)
    (v : Value) (n : Nat) (xs : List Value) (hown : OwnsAt w base e size v n xs)
    (x : Value) (m : Nat) (news : List Value) (hs : Src P size tx x m news w)
    (h63 : n + m ≤ maxLen) (hbytes : (n + m) * bytes ≤ 140737488355328) (hbase : base ≤ w.heap.size) :
    ∃ v' w', (Builtin.append_ #[t, tx] ty #[v, x]).run P w = .ok v' w' ∧ OwnsAt w' base e size v' (n + m) (xs ++ news) ∧ w.grownBy w' v.ownBlock ∧
      (v'.ownBlock = v.ownBlock ∨ v'.ownBlock = some w.heap.size) ∧ Spared w w' v size := by
  subst hsize
  subst hby
  have hlen : (xs ++ news).length = (n + m) * i.size := by rw [List.length_append, hown.1, hs.newsLen, Nat.add_mul]
  have hsmall : n + m ≤ 9223372036854775807 := by simp only [maxLen] at h63; omega
  -- the arm that grows
  have grown : ∀ (A : Option Addr) (cap : Nat), v = .slice A n cap → cap < n + m → (Builtin.firstCells i.size n (.slice A n cap)).run P w.drew = .ok xs.toArray w.drew →
      ∃ v' w', (Builtin.append_ #[t, tx] ty #[v, x]).run P w = .ok v' w' ∧ OwnsAt w' base e i.size v' (n + m) (xs ++ news) ∧ w.grownBy w' v.ownBlock ∧
      (v'.ownBlock = v.ownBlock ∨ v'.ownBlock = some w.heap.size) ∧ Spared w w' v i.size := by
    rintro A cap rfl hcap hfc
    have hr := run_append_grow_src (P := P) w t tx ty e i z ht hi hz A n cap xs hfc x m news hs hcap (by omega) (growslice_fits (by omega) hbytes)
    refine ⟨_, _, hr, ⟨hlen, .inr ⟨w.heap.size, 0, _, _, rfl, hbase, heap_alloc_new w.drew _, grownCap_ge w (n + m) cap e, grownCap_le_maxLen w (n + m) cap e h63, ?_, ?_⟩⟩, ⟨rfl, rfl, rfl, by simp, fun k hk _ => Below.heap_alloc w.drew _ k hk⟩, .inr rfl, ?_⟩
    · have hge := grownCap_ge w (n + m) cap e
      simp only [Array.size_append, List.size_toArray, size_zeroCells, hzs, hlen, ← Nat.add_mul, Nat.zero_add]
      exact Nat.mul_le_mul_right _ (by omega)
    · simp only [Array.toList_append, List.drop_zero]
      rw [← hlen]
      exact List.take_left
    · intro b o u hu _
      have hb : b < w.heap.size := World.block_lt_of_cell? w _ hu
      exact (World.cell?_of_block (a := ⟨b, o, none⟩) (Below.heap_alloc w.drew _ b hb)).trans hu
  rcases hown.2 with ⟨rfl, rfl⟩ | ⟨g, off, cap, cur, rfl, hbg, hg, hnc, hcm, hcs, htake⟩
  · have hx : xs = [] := List.eq_nil_of_length_eq_zero (by simpa using hown.1)
    subst hx
    by_cases hm : m = 0
    · subst hm
      have hn : news = [] := List.eq_nil_of_length_eq_zero (by simpa using hs.newsLen)
      subst hn
      refine ⟨.slice none 0 0, w, ?_, OwnsAt.nil w base e i.size, ⟨rfl, rfl, rfl, Nat.le_refl _, fun _ _ _ => rfl⟩, .inl rfl, fun _ _ _ h _ => h⟩
      rcases hs.kind with ⟨e', hk⟩ | hk <;> simp [Builtin.append_, run_underlying ht, run_underlying hk, sizeOf, typeInfo, hi, hs.len, hs.cells]
    · exact grown none 0 rfl (by omega) (run_firstCells_none w.drew i.size 0 0 0)
  · by_cases hroom : n + m ≤ cap
    · have h1 : n * i.size + news.length ≤ cap * i.size := by rw [hs.newsLen, ← Nat.add_mul]; exact Nat.mul_le_mul_right _ hroom
      have hfit : off + n * i.size + news.length ≤ cur.size := by omega
      have hr := run_append_room_at (P := P) w t tx ty e i ht hi g off n cap cur hg x m news hs hroom hfit
      refine ⟨_, _, hr, ⟨hlen, .inr ⟨g, off, cap, _, rfl, hbg, setRow_heap w g cur _ e _ hg, hroom, hcm, ?_, ?_⟩⟩, ⟨rfl, rfl, rfl, by simp, fun k _ hk => setRow_other w g k _ (fun e => hk (by simp [Value.ownBlock, e]))⟩, .inl rfl, ?_⟩
      · simp only [List.size_toArray, List.length_append, List.length_take, List.length_drop, Array.length_toList]
        omega
      · simp only [List.append_assoc]
        rw [List.drop_append_of_le_length (by simp; omega), List.drop_take, show off + n * i.size - off = n * i.size by omega, htake, ← List.append_assoc, ← hlen]
        exact List.take_left
      · intro b o u hu hk
        by_cases hb : b = g
        · subst hb
          have ho := hk b off n cap rfl rfl
          rw [cell_of_row w b o cur e (0, 0) hg] at hu
          rw [cell_of_row _ b o _ e (0, 0) (setRow_heap w b cur _ e _ hg)]
          simp only [List.getElem?_toArray, List.append_assoc]
          rw [List.getElem?_append_left (by simp; omega), List.getElem?_take, if_pos ho]
          simpa using hu
        · exact (World.cell?_of_block (a := ⟨b, o, none⟩) (setRow_other w g b _ hb)).trans hu
    · have holds : ∀ j u, xs[j]? = some u → w.drew.cell? ((⟨g, off, none⟩ : Addr).add j) = some u := by
        intro j u hu
        have h0 : 0 < n := by
          rcases Nat.eq_zero_or_pos n with h0 | h0
          · have hx := hown.1
            rw [h0, Nat.zero_mul] at hx
            rw [List.eq_nil_of_length_eq_zero hx] at hu
            simp at hu
          · exact h0
        obtain ⟨ad, hA, _, _, hc⟩ := hown.cells h0
        injection hA with hA
        subst hA
        exact hc j u hu
      exact grown (some ⟨g, off, none⟩) cap rfl (by omega) (run_firstCells_some w.drew i.size n ⟨g, off, none⟩ n cap xs hown.1 holds)

/-- At the operation. -/
theorem wp_append_at {o : Oper} {a : Act} {K : Act → World → Prop} {Q : Exit → Act → World → Prop} (s x : Operand) (t tx : TypeId)
    (ho : o.op = .call { callee := .builtin .append, args := #[s, x], argTypes := #[t, tx] })
    (base : Nat) (e : TypeId) (i : TypeInfo) (z : Value) (size bytes : Nat) (ht : P.underlying t = some (.slice e)) (hi : P.info? e = some i) (hz : i.zero = some z)
    (hsize : i.size = size) (hby : i.bytes = bytes) (hzs : z.cells.size = size) (hsz : 0 < size)
    (v : Value) (n : Nat) (xs : List Value) (hs : a.eval s = v) (hown : OwnsAt w base e size v n xs)
    (y : Value) (m : Nat) (news : List Value) (hx : a.eval x = y) (hsrc : Src P size tx y m news w)
    (h63 : n + m ≤ maxLen) (hbytes : (n + m) * bytes ≤ 140737488355328) (hbase : base ≤ w.heap.size)
    (h : ∀ A c w', OwnsAt w' base e size (.slice A (n + m) c) (n + m) (xs ++ news) → w.grownBy w' v.ownBlock → ((Value.slice A (n + m) c).ownBlock = v.ownBlock ∨ (Value.slice A (n + m) c).ownBlock = some w.heap.size) → Spared w w' v size → K (a.put o.dst (.slice A (n + m) c)) w') : o.wp P a w K Q := by
  obtain ⟨v', w', hrun, h2, h3, h4, h5⟩ := run_append_at (P := P) w base t tx o.type e i z size bytes ht hi hz hsize hby hzs hsz v n xs hown y m news hsrc h63 hbytes hbase
  obtain ⟨A, c, rfl, _, _⟩ := h2.shape
  unfold Oper.wp execOp
  simp only [ho, resolve, invoke, builtin, Sem.run_bind, Sem.run_pure, Result.andThen_ok, List.map_toArray, List.map_cons, List.map_nil, hs, hx, hrun]
  exact h A c w' h2 h3 h4 h5

/-- At a plain region's list. -/
theorem wpList_append_at {ops : Array Oper} {rest : List Oper} {o : Oper} {a : Act} {Q : Exit → Act → World → Prop} (hgd : o.guard = none) (s x : Operand) (t tx : TypeId)
    (ho : o.op = .call { callee := .builtin .append, args := #[s, x], argTypes := #[t, tx] })
    (base : Nat) (e : TypeId) (i : TypeInfo) (z : Value) (size bytes : Nat) (ht : P.underlying t = some (.slice e)) (hi : P.info? e = some i) (hz : i.zero = some z)
    (hsize : i.size = size) (hby : i.bytes = bytes) (hzs : z.cells.size = size) (hsz : 0 < size)
    (v : Value) (n : Nat) (xs : List Value) (hs : a.eval s = v) (hown : OwnsAt w base e size v n xs)
    (y : Value) (m : Nat) (news : List Value) (hx : a.eval x = y) (hsrc : Src P size tx y m news w)
    (h63 : n + m ≤ maxLen) (hbytes : (n + m) * bytes ≤ 140737488355328) (hbase : base ≤ w.heap.size)
    (h : ∀ A c w', OwnsAt w' base e size (.slice A (n + m) c) (n + m) (xs ++ news) → w.grownBy w' v.ownBlock → ((Value.slice A (n + m) c).ownBlock = v.ownBlock ∨ (Value.slice A (n + m) c).ownBlock = some w.heap.size) → Spared w w' v size → wpList P ops Q rest (a.put o.dst (.slice A (n + m) c)) w') : wpList P ops Q (o :: rest) a w :=
  wpList_plain hgd fun _ hK => wp_append_at w s x t tx ho base e i z size bytes ht hi hz hsize hby hzs hsz v n xs hs hown y m news hx hsrc h63 hbytes hbase fun A c w' h2 h3 h4 h5 => hK _ _ (h A c w' h2 h3 h4 h5)

/-- At a step of a region that draws its order. -/
theorem step_append_at {ops : Array Oper} {o : Oper} {a : Act} {K : Act → World → Prop} {Q : Exit → Act → World → Prop} {E : Prop} (hgd : o.guard = none) (s x : Operand) (t tx : TypeId)
    (ho : o.op = .call { callee := .builtin .append, args := #[s, x], argTypes := #[t, tx] })
    (base : Nat) (e : TypeId) (i : TypeInfo) (z : Value) (size bytes : Nat) (ht : P.underlying t = some (.slice e)) (hi : P.info? e = some i) (hz : i.zero = some z)
    (hsize : i.size = size) (hby : i.bytes = bytes) (hzs : z.cells.size = size) (hsz : 0 < size)
    (v : Value) (n : Nat) (xs : List Value) (hs : a.eval s = v) (hown : OwnsAt w base e size v n xs)
    (y : Value) (m : Nat) (news : List Value) (hx : a.eval x = y) (hsrc : Src P size tx y m news w)
    (h63 : n + m ≤ maxLen) (hbytes : (n + m) * bytes ≤ 140737488355328) (hbase : base ≤ w.heap.size)
    (h : ∀ A c w', OwnsAt w' base e size (.slice A (n + m) c) (n + m) (xs ++ news) → w.grownBy w' v.ownBlock → ((Value.slice A (n + m) c).ownBlock = v.ownBlock ∨ (Value.slice A (n + m) c).ownBlock = some w.heap.size) → Spared w w' v size → K (a.put o.dst (.slice A (n + m) c)) w') :
    if Region.wanted o (yielded ops a.tmps) = true then Oper.wp P o a w K Q else E := by
  have hw : Region.wanted o (yielded ops a.tmps) = true := by simp [Region.wanted, hgd]
  rw [if_pos hw]
  exact wp_append_at w s x t tx ho base e i z size bytes ht hi hz hsize hby hzs hsz v n xs hs hown y m news hx hsrc h63 hbytes hbase h
end
end Go.Proofs.Ytlkmmkphpiamcaa
