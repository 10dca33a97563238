/-
  Words for memory: a slice that reads as a list; a block that is known whole; only some blocks may have turned. No condition. By an AI agent.
-/
import Derived.Test.YtlkmmkphpiamcaaRows
import Derived.WalkKit
import Derived.WalkSpells
import Derived.WalkLawsBesides
import Derived.Lib.Hide
import Derived.Recover
import Derived.Defers
import Derived.OneCell
import Derived.Deep.Draws
import Derived.Laws.OwnMore
namespace Go.Proofs.Ytlkmmkphpiamcaa
open Go.RowKit

theorem addr_block (a : Addr) (n : Nat) : (a.add n).block = a.block := by unfold Addr.add; split <;> rfl
theorem addr_add (a : Addr) (i j : Nat) : (a.add i).add j = a.add (i + j) := by
  unfold Addr.add
  by_cases hi : i = 0 <;> by_cases hj : j = 0 <;> simp [hi, hj, Nat.add_assoc]

/-- Of the blocks that were there, those in S alone may have turned. -/
structure Touch (S : Nat → Prop) (w w' : World) : Prop where
  os : w'.os = w.os
  tape : w'.tape = w.tape
  output : w'.output = w.output
  size : w.heap.size ≤ w'.heap.size
  block : ∀ k, k < w.heap.size → ¬ S k → w'.heap[k]? = w.heap[k]?

section touch
variable {S S' : Nat → Prop} {a b c w w' : World}
theorem Touch.refl (S : Nat → Prop) (w : World) : Touch S w w := ⟨rfl, rfl, rfl, Nat.le_refl _, fun _ _ _ => rfl⟩
theorem Touch.trans (h : Touch S a b) (k : Touch S' b c) (hs : ∀ i, i < a.heap.size → S' i → S i) : Touch S a c :=
  ⟨k.os.trans h.os, k.tape.trans h.tape, k.output.trans h.output, Nat.le_trans h.size k.size, fun i hi hn =>
    (k.block i (Nat.lt_of_lt_of_le hi h.size) (fun e => hn (hs i hi e))).trans (h.block i hi hn)⟩
theorem Touch.mono (h : Touch S a b) (hs : ∀ i, i < a.heap.size → S i → S' i) : Touch S' a b :=
  ⟨h.os, h.tape, h.output, h.size, fun i hi hn => h.block i hi fun e => hn (hs i hi e)⟩
theorem Touch.alloc (h : Touch S a w) (o : Obj) : Touch S a (w.alloc o) :=
  ⟨h.os, h.tape, h.output, Nat.le_trans h.size (by simp), fun i hi hn => (Below.heap_alloc w o i (Nat.lt_of_lt_of_le hi h.size)).trans (h.block i hi hn)⟩
theorem Touch.drew (h : Touch S a w) : Touch S a w.drew := ⟨h.os, h.tape, h.output, h.size, h.block⟩
theorem Touch.drewN (h : Touch S a w) (n : Nat) : Touch S a (w.drewN n) := ⟨h.os, h.tape, h.output, h.size, h.block⟩
theorem Touch.undrew (h : Touch S a.drew w) : Touch S a w := ⟨h.os, h.tape, h.output, h.size, h.block⟩
theorem Touch.undrewN {n : Nat} (h : Touch S (a.drewN n) w) : Touch S a w := ⟨h.os, h.tape, h.output, h.size, h.block⟩
theorem Touch.setCell (h : Touch S a w) {p : Addr} (hp : p.block < a.heap.size → S p.block) (u : Value) : Touch S a (w.setCell p u) :=
  ⟨h.os, h.tape, h.output, by simpa [World.setCell] using h.size, fun i hi hn => (Below.heap_setCell w p u i (fun e => hn (e ▸ hp (e ▸ hi)))).trans (h.block i hi hn)⟩
theorem Touch.grown {row : Option Nat} (h : Touch S a w) (hg : w.grownBy w' row) (hr : ∀ k, row = some k → k < a.heap.size → S k) : Touch S a w' :=
  ⟨hg.os.trans h.os, hg.tape.trans h.tape, hg.output.trans h.output, Nat.le_trans h.size hg.size, fun i hi hn =>
    (hg.block i (Nat.lt_of_lt_of_le hi h.size) (fun e => hn (hr i e.symm hi))).trans (h.block i hi hn)⟩
theorem Touch.ofBelow {B : Nat} (h : Below B a b) (hs : ∀ i, i < a.heap.size → B ≤ i → S i) : Touch S a b :=
  ⟨h.os, h.tape, h.output, h.size, fun i hi hn => h.block i (Nat.lt_of_not_le fun e => hn (hs i hi e))⟩
theorem Touch.below (h : Touch S a b) {B : Nat} (hB : B ≤ a.heap.size) (hs : ∀ i, i < B → ¬ S i) : Below B a b :=
  ⟨h.os, h.tape, h.output, h.size, fun i hi => h.block i (by omega) (hs i hi)⟩
theorem Touch.cell (h : Touch S a b) {p : Addr} (hp : p.block < a.heap.size) (hs : ¬ S p.block) : b.cell? p = a.cell? p :=
  World.cell?_of_block (w := a) (h.block p.block hp hs)
end touch

/-- Nothing that was there has turned. -/
def Nowhere : Nat → Prop := fun _ => False

/-- A slice at A of n elements, 'size' cells each, reads as the cells xs and lies below block B. -/
def Reads (w : World) (B size : Nat) (A : Option Addr) (n : Nat) (xs : List Value) : Prop :=
  xs.length = n * size ∧ (0 < n → ∃ ad, A = some ad ∧ ad.block < B ∧ ∀ j u, xs[j]? = some u → w.cell? (ad.add j) = some u)

section reads
variable {w w' : World} {B B' size n : Nat} {A : Option Addr} {xs : List Value} {S : Nat → Prop}
theorem Reads.empty (w : World) (B size : Nat) (A : Option Addr) : Reads w B size A 0 [] := ⟨by simp, fun h => absurd h (by omega)⟩
theorem Reads.at1 {k : Nat} (h : Reads w B 1 A n xs) (hk : k < n) : ∃ ad u, A = some ad ∧ ad.block < B ∧ xs[k]? = some u ∧ w.cell? (ad.add k) = some u := by
  obtain ⟨ad, e, hb, hc⟩ := h.2 (by omega)
  have hl : k < xs.length := by have := h.1; omega
  exact ⟨ad, xs[k], e, hb, List.getElem?_eq_getElem hl, hc k _ (List.getElem?_eq_getElem hl)⟩
theorem Reads.keep (h : Reads w B size A n xs) (hk : ∀ p : Addr, p.block < B → w'.cell? p = w.cell? p) : Reads w' B size A n xs :=
  ⟨h.1, fun hn => by
    obtain ⟨ad, e, hb, hc⟩ := h.2 hn
    exact ⟨ad, e, hb, fun j u hu => (hk _ (by rw [addr_block]; exact hb)).trans (hc j u hu)⟩⟩
theorem Reads.more (h : Reads w B size A n xs) (hB : B ≤ B') : Reads w B' size A n xs :=
  ⟨h.1, fun hn => by
    obtain ⟨ad, e, hb, hc⟩ := h.2 hn
    exact ⟨ad, e, by omega, hc⟩⟩
theorem Reads.below (h : Reads w B size A n xs) (hb : Below B w w') : Reads w' B size A n xs := h.keep fun _ hp => hb.cell hp
theorem Reads.touch (h : Reads w B size A n xs) (ht : Touch S w w') (hB : B ≤ w.heap.size) (hs : ∀ i, i < B → ¬ S i) : Reads w' B size A n xs := h.below (ht.below hB hs)
theorem Reads.own {base : Nat} {e : TypeId} {c : Nat} (h : w.ownsRow base e size (.slice A n c) n xs) : Reads w w.heap.size size A n xs := by
  refine ⟨h.1, fun hn => ?_⟩
  rcases h.2 with ⟨_, h0⟩ | ⟨g, cap, cur, hv, _, hh, _⟩
  · omega
  · have hA : A = some ⟨g, 0, none⟩ := by injection hv
    subst hA
    exact ⟨_, rfl, lt_of_block hh, h.cells (g := g) rfl⟩
/-- A cut at the front, at a capacity that is known not to be reached. -/
theorem Reads.cut (h : Reads w B size A n xs) {k cap : Nat} (hk : k ≤ n) (hc : n ≤ cap) :
    Reads w B size (if cap = k then A else A.map (·.add (k * size))) (n - k) (xs.drop (k * size)) := by
  refine ⟨by rw [List.length_drop, h.1, Nat.sub_mul], fun hn => ?_⟩
  obtain ⟨ad, rfl, hb, hcell⟩ := h.2 (by omega)
  rw [if_neg (by omega)]
  refine ⟨ad.add (k * size), rfl, by rw [addr_block]; exact hb, fun j u hu => ?_⟩
  rw [addr_add]
  exact hcell _ u (by rw [← hu, List.getElem?_drop])
theorem Reads.take (h : Reads w B size A n xs) {k : Nat} (hk : k ≤ n) : Reads w B size A k (xs.take (k * size)) := by
  have hm : k * size ≤ n * size := Nat.mul_le_mul_right _ hk
  refine ⟨by rw [List.length_take, h.1]; omega, fun hn => ?_⟩
  obtain ⟨ad, e, hb, hc⟩ := h.2 (by omega)
  refine ⟨ad, e, hb, fun j u hu => hc j u ?_⟩
  rw [List.getElem?_take] at hu
  split at hu
  · exact hu
  · cases hu
end reads

/-- Block g is just the cells cs of element type t, none frozen. -/
def Blk (w : World) (g : Nat) (t : TypeId) (cs : Array Value) : Prop := w.heap[g]? = some (.cells cs t (0, 0))

section blk
variable {w w' : World} {g : Nat} {t : TypeId} {cs : Array Value} {S : Nat → Prop}
theorem Blk.lt (h : Blk w g t cs) : g < w.heap.size := lt_of_block h
theorem Blk.cell (h : Blk w g t cs) (i : Nat) : w.cell? ⟨g, i, none⟩ = cs[i]? := cell_of_row w g i cs t (0, 0) h
theorem Blk.free (h : Blk w g t cs) (i : Nat) : w.frozen? ⟨g, i, none⟩ = false := frozen_of_row w g i cs t h
theorem Blk.new (w : World) (t : TypeId) (cs : Array Value) : Blk (w.alloc (.cells cs t)) w.heap.size t cs := heap_alloc_new w _
theorem Blk.drew (h : Blk w g t cs) : Blk w.drew g t cs := h
theorem Blk.drewN (h : Blk w g t cs) (n : Nat) : Blk (w.drewN n) g t cs := h
theorem Blk.alloc (h : Blk w g t cs) (o : Obj) : Blk (w.alloc o) g t cs := (Below.heap_alloc w o g h.lt).trans h
theorem Blk.put (h : Blk w g t cs) (i : Nat) (u : Value) : Blk (w.setCell ⟨g, i, none⟩ u) g t (cs.setIfInBounds i u) := by
  unfold Blk at h ⊢
  simp [World.setCell, Array.getElem?_modify, h]
theorem Blk.far (h : Blk w g t cs) {p : Addr} (hp : g ≠ p.block) (u : Value) : Blk (w.setCell p u) g t cs := (Below.heap_setCell w p u g hp).trans h
theorem Blk.touch (h : Blk w g t cs) (ht : Touch S w w') (hs : ¬ S g) : Blk w' g t cs := (ht.block g h.lt hs).trans h
theorem Blk.below {B : Nat} (h : Blk w g t cs) (hb : Below B w w') (hg : g < B) : Blk w' g t cs := (hb.block g hg).trans h
theorem Blk.grown {row : Option Nat} (h : Blk w g t cs) (hb : w.grownBy w' row) (hg : some g ≠ row) : Blk w' g t cs := (hb.block g h.lt hg).trans h
theorem Blk.unlike {g' : Nat} {t' : TypeId} {cs' : Array Value} (h : Blk w g t cs) (h' : Blk w g' t' cs') (hne : t ≠ t') : g ≠ g' := by
  rintro rfl
  unfold Blk at h h'
  rw [h] at h'
  injection h' with h'
  injection h' with _ ht
  exact hne ht
end blk

theorem own_touch {w w' : World} {S : Nat → Prop} {base : Nat} {e : TypeId} {size : Nat} {v : Value} {n : Nat} {xs : List Value}
    (h : w.ownsRow base e size v n xs) (ht : Touch S w w') (hs : ∀ g, base ≤ g → ¬ S g) : w'.ownsRow base e size v n xs := by
  obtain ⟨h1, h2⟩ := h
  refine ⟨h1, ?_⟩
  rcases h2 with h2 | ⟨g, cap, cur, hv, hg, hh, r⟩
  · exact Or.inl h2
  · exact Or.inr ⟨g, cap, cur, hv, hg, by rw [ht.block g (lt_of_block hh) (hs g hg)]; exact hh, r⟩
theorem own_touch1 {w w' : World} {b base : Nat} {e : TypeId} {size : Nat} {v : Value} {n : Nat} {xs : List Value}
    (h : w.ownsRow base e size v n xs) (ht : Touch (· = b) w w') (hb : b < base) : w'.ownsRow base e size v n xs :=
  own_touch h ht fun g hg (he : g = b) => by omega
theorem own_touch2 {w w' : World} {b c base : Nat} {e : TypeId} {size : Nat} {v : Value} {n : Nat} {xs : List Value}
    (h : w.ownsRow base e size v n xs) (ht : Touch (fun x => x = b ∨ x = c) w w') (hb : b < base) (hc : c < base) : w'.ownsRow base e size v n xs :=
  own_touch h ht fun g hg (he : g = b ∨ g = c) => by omega
theorem own_slice {w : World} {base : Nat} {e : TypeId} {size : Nat} {v : Value} {n : Nat} {xs : List Value} (h : w.ownsRow base e size v n xs) : ∃ A c, v = .slice A n c := by
  rcases h.2 with ⟨h1, h2⟩ | ⟨g, cap, cur, hv, _⟩
  · exact ⟨none, 0, by rw [h1, h2]⟩
  · exact ⟨_, _, hv⟩
theorem own_drew {w : World} {base : Nat} {e : TypeId} {size : Nat} {v : Value} {n : Nat} {xs : List Value} (h : w.ownsRow base e size v n xs) : w.drew.ownsRow base e size v n xs := h
theorem own_far {w : World} {base : Nat} {e : TypeId} {size : Nat} {v : Value} {n : Nat} {xs : List Value} (h : w.ownsRow base e size v n xs) {p : Addr} (hp : p.block < base) (u : Value) : (w.setCell p u).ownsRow base e size v n xs :=
  ownsRow_setCell_below h hp u
theorem own_apart {w : World} {base : Nat} {e : TypeId} {size : Nat} {v : Value} {n : Nat} {xs : List Value} (h : w.ownsRow base e size v n xs) {b : Nat} (hb : b < base) : v.ownBlock ≠ some b := fun e => by
  have := (h.lt b e).1
  omega
theorem grown_touch {w w' : World} {row : Option Nat} (hg : w.grownBy w' row) : Touch (fun b => row = some b) w w' :=
  (Touch.refl _ w).grown hg fun _ h _ => h

theorem catch_idle (p : Addr) (w : World) :
    CallsD Try.prog 61 #[.pointer (some p)] .returning w fun e u' w' => e = .returned (.tuple #[]) ∧ u' = .returning ∧ w' = w := by
  refine callsD_of_wpS Try.func61 rfl fun c₀ cs hu => ?_
  apply wpS_seq
  apply wpS_region
  simp [wpOpsS, go_sem, recoverD, hu, Try.ntmps61, Exit.thenS]
  refine wpS_cond (t := false) (by simp [Act.eval, Array.replicate]) ?_
  simp only [Bool.false_eq_true, if_false]
  refine wpS_of_wp (wp_skip ?_)
  cases c₀
  simp_all [bodyPostS, results, Try.results61]

/-- quietly over a closure that returns: true. -/
theorem quietly_33 (p1 p2 p3 : Value) (w : World) (R : World → Prop)
    (hg : Calls Try.prog 33 #[p1, p2, p3] (w.alloc (.cells #[.bool false] 4)) fun e w' => e = .returned (.tuple #[]) ∧ R w' ∧ Blk w' w.heap.size 4 #[.bool false]) :
    Calls Try.prog 32 #[.func (.func 33) #[] #[p1, p2, p3]] w fun e w' => e = .returned (.bool true) ∧ ∃ w1, R w1 ∧ w' = w1.setCell ⟨w.heap.size, 0, none⟩ (.bool true) := by
  have H := Lib.hid hg
  clear hg
  have hmf : ∀ (fn : Fn) (first cap : Array Value) (w : World), (Instr.makeFunc fn first cap).run Try.prog w = .ok (.func fn first cap) w := fun _ _ _ _ => rfl
  go_enter_defers Try.func32, Try.ntmps32
  go_wp2_with fail
  refine H.out.mono ?_
  rintro e w1 ⟨rfl, hR, hb⟩
  have hc := hb.cell 0
  have hf := hb.free 0
  simp only [List.getElem?_toArray, List.getElem?_cons_zero] at hc
  have HR := Lib.hid hR
  have HB := Lib.hid hb
  clear hR hb
  go_wp2_with fail
  refine leaves_cons (f := 61) (args := #[.pointer (some ⟨w.heap.size, 0, none⟩)]) (by simp) (by simp [go_sem]) ?_
  refine (catch_idle ⟨w.heap.size, 0, none⟩ _).mono ?_
  rintro e u' w'' ⟨rfl, rfl, rfl⟩
  have hb2 : (w1.setCell ⟨w.heap.size, 0, none⟩ (.bool true)).cell? ⟨w.heap.size, 0, none⟩ = some (.bool true) := by
    simp [go_sem, hc]
  simp [Leaves, settle, results, Try.results32, go_sem, hb2]
  exact ⟨w1, HR.out, rfl⟩
end Go.Proofs.Ytlkmmkphpiamcaa
