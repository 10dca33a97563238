/-
  append onto a slice that lies anywhere, once more: it also tells where the result lies. No condition. By an AI agent.
-/
import Derived.Test.YtlkmmkphpiamcaaAt
namespace Go.Proofs.Ytlkmmkphpiamcaa
open Go.RowKit

/-- The result of an append: at the same place, or in a new block. -/
def Grew (v v' : Value) (n n' : Nat) (w w' : World) : Prop :=
  (v' = v ∧ n' = n) ∨ (∃ g off c, v = .slice (some ⟨g, off, none⟩) n c ∧ v' = .slice (some ⟨g, off, none⟩) n' c) ∨
  (∃ c, v' = .slice (some ⟨w.heap.size, 0, none⟩) n' c) ∧ ∀ b, b < w.heap.size → w'.heap[b]? = w.heap[b]?

section
variable {P : Program} (w : World)

theorem run_append_au (base : Nat) (t tx ty e : TypeId) (i : TypeInfo) (z : Value) (size bytes : Nat) (ht : P.underlying t = some (.slice e)) (hi : P.info? e = some i) (hz : i.zero = some z)
    (hsize : i.size = size) (hby : i.bytes = bytes) (hzs : z.cells.size = size) (hsz : 0 < size)
    (v : Value) (n : Nat) (xs : List Value) (hown : OwnsAt w base e size v n xs)
    (x : Value) (m : Nat) (news : List Value) (hs : Src P size tx x m news w)
    (h63 : n + m ≤ maxLen) (hbytes : (n + m) * bytes ≤ 140737488355328) (hbase : base ≤ w.heap.size) :
    ∃ v' w', (Builtin.append_ #[t, tx] ty #[v, x]).run P w = .ok v' w' ∧ OwnsAt w' base e size v' (n + m) (xs ++ news) ∧ w.grownBy w' v.ownBlock ∧
      Grew v v' n (n + m) w w' ∧ Spared w w' v size := by
  subst hsize
  subst hby
  have hlen : (xs ++ news).length = (n + m) * i.size := by rw [List.length_append, hown.1, hs.newsLen, Nat.add_mul]
  have hsmall : n + m ≤ 9223372036854775807 := by simp only [maxLen] at h63; omega
  -- the arm that grows
  have grown : ∀ (A : Option Addr) (cap : Nat), v = .slice A n cap → cap < n + m → (Builtin.firstCells i.size n (.slice A n cap)).run P w.drew = .ok xs.toArray w.drew →
      ∃ v' w', (Builtin.append_ #[t, tx] ty #[v, x]).run P w = .ok v' w' ∧ OwnsAt w' base e i.size v' (n + m) (xs ++ news) ∧ w.grownBy w' v.ownBlock ∧
      Grew v v' n (n + m) w w' ∧ Spared w w' v i.size := by
    rintro A cap rfl hcap hfc
    have hr := run_append_grow_src (P := P) w t tx ty e i z ht hi hz A n cap xs hfc x m news hs hcap (by omega) (growslice_fits (by omega) hbytes)
    refine ⟨_, _, hr, ⟨hlen, .inr ⟨w.heap.size, 0, _, _, rfl, hbase, heap_alloc_new w.drew _, grownCap_ge w (n + m) cap e, grownCap_le_maxLen w (n + m) cap e h63, ?_, ?_⟩⟩, ⟨rfl, rfl, rfl, by simp, fun k hk _ => Below.heap_alloc w.drew _ k hk⟩, .inr (.inr ⟨⟨_, rfl⟩, fun k hk => Below.heap_alloc w.drew _ k hk⟩), ?_⟩
    · have hge := grownCap_ge w (n + m) cap e
      simp only [Array.size_append, List.size_toArray, size_zeroCells, hzs, hlen, ← Nat.add_mul, Nat.zero_add]
      exact Nat.mul_le_mul_right _ (by omega)
    · simp only [Array.toList_append, List.drop_zero]
      rw [← hlen]
      exact List.take_left
    · intro b o u hu _
      have hb : b < w.heap.size := World.block_lt_of_cell? w _ hu
      exact (World.cell?_of_block (a := ⟨b, o, none⟩) (Below.heap_alloc w.drew _ b hb)).trans hu
  rcases hown.2 with ⟨rfl, rfl⟩ | ⟨g, off, cap, cur, rfl, hbg, hg, hnc, hcm, hcs, htake⟩
  · have hx : xs = [] := List.eq_nil_of_length_eq_zero (by simpa using hown.1)
    subst hx
    by_cases hm : m = 0
    · subst hm
      have hn : news = [] := List.eq_nil_of_length_eq_zero (by simpa using hs.newsLen)
      subst hn
      refine ⟨.slice none 0 0, w, ?_, OwnsAt.nil w base e i.size, ⟨rfl, rfl, rfl, Nat.le_refl _, fun _ _ _ => rfl⟩, .inl ⟨rfl, rfl⟩, fun _ _ _ h _ => h⟩
      rcases hs.kind with ⟨e', hk⟩ | hk <;> simp [Builtin.append_, run_underlying ht, run_underlying hk, sizeOf, typeInfo, hi, hs.len, hs.cells]
    · exact grown none 0 rfl (by omega) (run_firstCells_none w.drew i.size 0 0 0)
  · by_cases hroom : n + m ≤ cap
    · have h1 : n * i.size + news.length ≤ cap * i.size := by rw [hs.newsLen, ← Nat.add_mul]; exact Nat.mul_le_mul_right _ hroom
      have hfit : off + n * i.size + news.length ≤ cur.size := by omega
      have hr := run_append_room_at (P := P) w t tx ty e i ht hi g off n cap cur hg x m news hs hroom hfit
      refine ⟨_, _, hr, ⟨hlen, .inr ⟨g, off, cap, _, rfl, hbg, setRow_heap w g cur _ e _ hg, hroom, hcm, ?_, ?_⟩⟩, ⟨rfl, rfl, rfl, by simp, fun k _ hk => setRow_other w g k _ (fun e => hk (by simp [Value.ownBlock, e]))⟩, .inr (.inl ⟨_, _, _, rfl, rfl⟩), ?_⟩
      · simp only [List.size_toArray, List.length_append, List.length_take, List.length_drop, Array.length_toList]
        omega
      · simp only [List.append_assoc]
        rw [List.drop_append_of_le_length (by simp; omega), List.drop_take, show off + n * i.size - off = n * i.size by omega, htake, ← List.append_assoc, ← hlen]
        exact List.take_left
      · intro b o u hu hk
        by_cases hb : b = g
        · subst hb
          have ho := hk b off n cap rfl rfl
          rw [cell_of_row w b o cur e (0, 0) hg] at hu
          rw [cell_of_row _ b o _ e (0, 0) (setRow_heap w b cur _ e _ hg)]
          simp only [List.getElem?_toArray, List.append_assoc]
          rw [List.getElem?_append_left (by simp; omega), List.getElem?_take, if_pos ho]
          simpa using hu
        · exact (World.cell?_of_block (a := ⟨b, o, none⟩) (setRow_other w g b _ hb)).trans hu
    · have holds : ∀ j u, xs[j]? = some u → w.drew.cell? ((⟨g, off, none⟩ : Addr).add j) = some u := by
        intro j u hu
        have h0 : 0 < n := by
          rcases Nat.eq_zero_or_pos n with h0 | h0
          · have hx := hown.1
            rw [h0, Nat.zero_mul] at hx
            rw [List.eq_nil_of_length_eq_zero hx] at hu
            simp at hu
          · exact h0
        obtain ⟨ad, hA, _, _, hc⟩ := hown.cells h0
        injection hA with hA
        subst hA
        exact hc j u hu
      exact grown (some ⟨g, off, none⟩) cap rfl (by omega) (run_firstCells_some w.drew i.size n ⟨g, off, none⟩ n cap xs hown.1 holds)

/-- At the operation. -/
theorem wp_append_au {o : Oper} {a : Act} {K : Act → World → Prop} {Q : Exit → Act → World → Prop} (s x : Operand) (t tx : TypeId)
    (ho : o.op = .call { callee := .builtin .append, args := #[s, x], argTypes := #[t, tx] })
    (base : Nat) (e : TypeId) (i : TypeInfo) (z : Value) (size bytes : Nat) (ht : P.underlying t = some (.slice e)) (hi : P.info? e = some i) (hz : i.zero = some z)
    (hsize : i.size = size) (hby : i.bytes = bytes) (hzs : z.cells.size = size) (hsz : 0 < size)
    (v : Value) (n : Nat) (xs : List Value) (hs : a.eval s = v) (hown : OwnsAt w base e size v n xs)
    (y : Value) (m : Nat) (news : List Value) (hx : a.eval x = y) (hsrc : Src P size tx y m news w)
    (h63 : n + m ≤ maxLen) (hbytes : (n + m) * bytes ≤ 140737488355328) (hbase : base ≤ w.heap.size)
    (h : ∀ A c w', OwnsAt w' base e size (.slice A (n + m) c) (n + m) (xs ++ news) → w.grownBy w' v.ownBlock → Grew v (Value.slice A (n + m) c) n (n + m) w w' → Spared w w' v size → K (a.put o.dst (.slice A (n + m) c)) w') : o.wp P a w K Q := by
  obtain ⟨v', w', hrun, h2, h3, h4, h5⟩ := run_append_au (P := P) w base t tx o.type e i z size bytes ht hi hz hsize hby hzs hsz v n xs hown y m news hsrc h63 hbytes hbase
  obtain ⟨A, c, rfl, _, _⟩ := h2.shape
  unfold Oper.wp execOp
  simp only [ho, resolve, invoke, builtin, Sem.run_bind, Sem.run_pure, Result.andThen_ok, List.map_toArray, List.map_cons, List.map_nil, hs, hx, hrun]
  exact h A c w' h2 h3 h4 h5

/-- At a plain region's list. -/
theorem wpList_append_au {ops : Array Oper} {rest : List Oper} {o : Oper} {a : Act} {Q : Exit → Act → World → Prop} (hgd : o.guard = none) (s x : Operand) (t tx : TypeId)
    (ho : o.op = .call { callee := .builtin .append, args := #[s, x], argTypes := #[t, tx] })
    (base : Nat) (e : TypeId) (i : TypeInfo) (z : Value) (size bytes : Nat) (ht : P.underlying t = some (.slice e)) (hi : P.info? e = some i) (hz : i.zero = some z)
    (hsize : i.size = size) (hby : i.bytes = bytes) (hzs : z.cells.size = size) (hsz : 0 < size)
    (v : Value) (n : Nat) (xs : List Value) (hs : a.eval s = v) (hown : OwnsAt w base e size v n xs)
    (y : Value) (m : Nat) (news : List Value) (hx : a.eval x = y) (hsrc : Src P size tx y m news w)
    (h63 : n + m ≤ maxLen) (hbytes : (n + m) * bytes ≤ 140737488355328) (hbase : base ≤ w.heap.size)
    (h : ∀ A c w', OwnsAt w' base e size (.slice A (n + m) c) (n + m) (xs ++ news) → w.grownBy w' v.ownBlock → Grew v (Value.slice A (n + m) c) n (n + m) w w' → Spared w w' v size → wpList P ops Q rest (a.put o.dst (.slice A (n + m) c)) w') : wpList P ops Q (o :: rest) a w :=
  wpList_plain hgd fun _ hK => wp_append_au w s x t tx ho base e i z size bytes ht hi hz hsize hby hzs hsz v n xs hs hown y m news hx hsrc h63 hbytes hbase fun A c w' h2 h3 h4 h5 => hK _ _ (h A c w' h2 h3 h4 h5)

/-- At a step of a region that draws its order. -/
theorem step_append_au {ops : Array Oper} {o : Oper} {a : Act} {K : Act → World → Prop} {Q : Exit → Act → World → Prop} {E : Prop} (hgd : o.guard = none) (s x : Operand) (t tx : TypeId)
    (ho : o.op = .call { callee := .builtin .append, args := #[s, x], argTypes := #[t, tx] })
    (base : Nat) (e : TypeId) (i : TypeInfo) (z : Value) (size bytes : Nat) (ht : P.underlying t = some (.slice e)) (hi : P.info? e = some i) (hz : i.zero = some z)
    (hsize : i.size = size) (hby : i.bytes = bytes) (hzs : z.cells.size = size) (hsz : 0 < size)
    (v : Value) (n : Nat) (xs : List Value) (hs : a.eval s = v) (hown : OwnsAt w base e size v n xs)
    (y : Value) (m : Nat) (news : List Value) (hx : a.eval x = y) (hsrc : Src P size tx y m news w)
    (h63 : n + m ≤ maxLen) (hbytes : (n + m) * bytes ≤ 140737488355328) (hbase : base ≤ w.heap.size)
    (h : ∀ A c w', OwnsAt w' base e size (.slice A (n + m) c) (n + m) (xs ++ news) → w.grownBy w' v.ownBlock → Grew v (Value.slice A (n + m) c) n (n + m) w w' → Spared w w' v size → K (a.put o.dst (.slice A (n + m) c)) w') :
    if Region.wanted o (yielded ops a.tmps) = true then Oper.wp P o a w K Q else E := by
  have hw : Region.wanted o (yielded ops a.tmps) = true := by simp [Region.wanted, hgd]
  rw [if_pos hw]
  exact wp_append_au w s x t tx ho base e i z size bytes ht hi hz hsize hby hzs hsz v n xs hs hown y m news hx hsrc h63 hbytes hbase h
end
end Go.Proofs.Ytlkmmkphpiamcaa
