/-
  Reports as data: how they lie. No condition. By an AI agent.
-/
import Derived.Test.YtlkmmkphpiamcaaKr
import Derived.Test.YtlkmmkphpiamcaaKx
namespace Go.Proofs.Ytlkmmkphpiamcaa
open Go.RowKit

/-- A report as data: senders, base, reference time, number, statuses, times. -/
structure Rp where
  sd : Int
  md : Int
  bs : Nat
  ref : Int
  fb : Nat
  S : List Nat
  D : List Int
structure Rp.Ok (r : Rp) : Prop where
  bs : r.bs < 65536
  fb : r.fb < 256
  S : r.S.length ≤ 1000
  D : r.D.length ≤ 1000
  sym : ∀ d ∈ r.S, d < 65536
def i64s (D : List Int) : List Value := D.map (Value.int .i64)
theorem i64s_len (D : List Int) : (i64s D).length = D.length := by simp [i64s]
def rpCells (r : Rp) (a b : Value) : List Value := [.int .u32 r.sd, .int .u32 r.md, .int .i64 (r.bs : Int), .int .i64 (r.S.length : Int), .int .u32 r.ref, .int .i64 (r.fb : Int), a, b]
/-- A packet, as it lies in a list. -/
def pkCell (p : Nat × Rp) : Value := .iface 161 (.pointer (some ⟨p.1, 0, none⟩))
structure PkAt (w : World) (p : Nat × Rp) : Prop where
  rep : RepAt w p.1 p.2.S p.2.D p.2.sd p.2.md (p.2.bs : Int) (p.2.S.length : Int) p.2.ref (p.2.fb : Int)
  ok : p.2.Ok
def rowsCells (ts : List (Rp × Value × Value)) : List Value := ts.flatMap fun t => rpCells t.1 t.2.1 t.2.2
theorem rowsCells_snoc (ts : List (Rp × Value × Value)) (t : Rp × Value × Value) : rowsCells (ts ++ [t]) = rowsCells ts ++ rpCells t.1 t.2.1 t.2.2 := by simp [rowsCells]
theorem rowsCells_len (ts : List (Rp × Value × Value)) : (rowsCells ts).length = ts.length * 8 := by
  induction ts with
  | nil => rfl
  | cons t ts ih => simp only [rowsCells, List.flatMap_cons, List.length_append, List.length_cons] at ih ⊢; rw [ih]; simp [rpCells]; omega
theorem rowsCells_at : ∀ (ts : List (Rp × Value × Value)) (j : Nat) (t : Rp × Value × Value), ts[j]? = some t → ∀ i u, (rpCells t.1 t.2.1 t.2.2)[i]? = some u → (rowsCells ts)[j * 8 + i]? = some u
  | [], _, _, h => by simp at h
  | y :: ts, 0, t, h => fun i u hu => by
    simp only [List.getElem?_cons_zero, Option.some.injEq] at h
    subst h
    have hi : i < (rpCells y.1 y.2.1 y.2.2).length := (List.getElem?_eq_some_iff.1 hu).1
    simp only [rowsCells, List.flatMap_cons]
    rw [Nat.zero_mul, Nat.zero_add, List.getElem?_append_left hi]
    exact hu
  | y :: ts, j + 1, t, h => fun i u hu => by
    have h1 := rowsCells_at ts j t (by simpa using h) i u hu
    simp only [rowsCells, List.flatMap_cons] at h1 ⊢
    have hl : (rpCells y.1 y.2.1 y.2.2).length = 8 := by simp [rpCells]
    rw [List.getElem?_append_right (by rw [hl]; omega), hl, show (j + 1) * 8 + i - 8 = j * 8 + i by omega]
    exact h1
structure RowAt (w : World) (base : Nat) (t : Rp × Value × Value) : Prop where
  S : OwnsAt w base 3 1 t.2.1 t.1.S.length (is64 t.1.S)
  D : OwnsAt w base 2 1 t.2.2 t.1.D.length (i64s t.1.D)
/-- Reports as data lie in rows of the call's own. -/
def RepsAt (w : World) (base : Nat) (v : Value) (rs : List Rp) : Prop :=
  ∃ ts : List (Rp × Value × Value), ts.map Prod.fst = rs ∧ OwnsAt w base 74 8 v rs.length (rowsCells ts) ∧ ∀ t ∈ ts, RowAt w base t

section
variable {w w' : World} {base : Nat} {S : Nat → Prop}
theorem RowAt.keep {t : Rp × Value × Value} (h : RowAt w base t) (ht : Touch S w w') (hS : ∀ q, base ≤ q → ¬ S q) : RowAt w' base t :=
  ⟨h.S.keep fun g hg hv => ht.block g (h.S.lt g hv).2 (hS g hg), h.D.keep fun g hg hv => ht.block g (h.D.lt g hv).2 (hS g hg)⟩
theorem RowAt.kinds {t : Rp × Value × Value} (h : RowAt w base t) (ht : Touch S w w') (hS : ∀ q k cs, Blk w q k cs → S q → k ≠ 3 ∧ k ≠ 2) : RowAt w' base t :=
  ⟨h.S.touch ht fun q cs hq hs => (hS q _ cs hq hs).1 rfl, h.D.touch ht fun q cs hq hs => (hS q _ cs hq hs).2 rfl⟩
theorem RowAt.low {t : Rp × Value × Value} {b : Nat} (h : RowAt w base t) (hb : b ≤ base) : RowAt w b t := ⟨h.S.low hb, h.D.low hb⟩
theorem RepsAt.keep {v : Value} {rs : List Rp} (h : RepsAt w base v rs) (ht : Touch S w w') (hS : ∀ q, base ≤ q → ¬ S q) : RepsAt w' base v rs := by
  obtain ⟨ts, h1, h2, h3⟩ := h
  exact ⟨ts, h1, h2.keep fun g hg hv => ht.block g (h2.lt g hv).2 (hS g hg), fun t ht' => (h3 t ht').keep ht hS⟩
theorem RepsAt.low {v : Value} {rs : List Rp} {b : Nat} (h : RepsAt w base v rs) (hb : b ≤ base) : RepsAt w b v rs := by
  obtain ⟨ts, h1, h2, h3⟩ := h
  exact ⟨ts, h1, h2.low hb, fun t ht => (h3 t ht).low hb⟩
theorem RepAt.idle {rt : Nat} {Ss : List Nat} {D : List Int} {sd md bs cnt ref fb : Int} (h : RepAt w rt Ss D sd md bs cnt ref fb) (ht : Touch Nowhere w w') : RepAt w' rt Ss D sd md bs cnt ref fb := by
  obtain ⟨r, cl, ps, b, v, A, c, z, g, off, h1, h2, ⟨h3, h4, h5, h6, h7⟩, h8, h9, h10⟩ := h
  refine ⟨r, cl, ps, b, v, A, c, z, g, off, h1.touch ht (fun h => h), h2, ⟨h3, h4.touch ht fun _ _ _ h => h, h5.map fun c p hc => hc.step ht (fun _ _ _ _ _ h => h) fun g o es he => he.touch ht fun _ _ _ h => h, h6, h7⟩, h8, h9.touch ht (fun h => h), fun hl => ?_⟩
  obtain ⟨cur, k1, k2⟩ := h10 hl
  exact ⟨cur, (ht.block g (lt_of_block k1) (fun h => h)).trans k1, k2⟩
theorem PkAt.idle {p : Nat × Rp} (h : PkAt w p) (ht : Touch Nowhere w w') : PkAt w' p := ⟨h.rep.idle ht, h.ok⟩
end
/-- What reports gives. -/
def ReportsPost (rs : List Rp) (w : World) (e : Ending) (w' : World) : Prop :=
  ∃ A c, e = .returned (.slice A rs.length c) ∧ RepsAt w' w.heap.size (.slice A rs.length c) rs ∧ Below w.heap.size w w'
end Go.Proofs.Ytlkmmkphpiamcaa
