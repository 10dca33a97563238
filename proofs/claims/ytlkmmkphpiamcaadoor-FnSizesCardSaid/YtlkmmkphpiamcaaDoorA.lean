/-
  The unwrapper, impl.Unwrap and works, as in the seat of the other statements. By an AI agent.
-/
import Derived.Test.YtlkmmkphpiamcaaDoorRows
import Derived.WalkKit
import Derived.WalkSpells
import Derived.WalkLawsBesides
import Derived.Lib.Hide
import Derived.Recover
import Derived.Defers
import Derived.OneCell
import Derived.Deep.Draws
import Derived.Laws.OwnMore
import Derived.BigQuiet
import Derived.Deep.QuietTactic
import Derived.Deep.RegionHeld3
import Derived.Deep.AppendLies
import Derived.Deep.RegionLaw
import Derived.Deep.DeepCutAuto
import Derived.Deep.LoopGhost
import Derived.Laws.BitsAllLaws
namespace Go.Proofs.YtlkmmkphpiamcaaDoor
open Go.RowKit

open Go.RowKit

theorem addr_block (a : Addr) (n : Nat) : (a.add n).block = a.block := by unfold Addr.add; split <;> rfl
theorem addr_add (a : Addr) (i j : Nat) : (a.add i).add j = a.add (i + j) := by
  unfold Addr.add
  by_cases hi : i = 0 <;> by_cases hj : j = 0 <;> simp [hi, hj, Nat.add_assoc]

/-- Of the blocks that were there, those in S alone may have turned. -/
structure Touch (S : Nat → Prop) (w w' : World) : Prop where
  os : w'.os = w.os
  tape : w'.tape = w.tape
  output : w'.output = w.output
  size : w.heap.size ≤ w'.heap.size
  block : ∀ k, k < w.heap.size → ¬ S k → w'.heap[k]? = w.heap[k]?

section touch
variable {S S' : Nat → Prop} {a b c w w' : World}
theorem Touch.refl (S : Nat → Prop) (w : World) : Touch S w w := ⟨rfl, rfl, rfl, Nat.le_refl _, fun _ _ _ => rfl⟩
theorem Touch.trans (h : Touch S a b) (k : Touch S' b c) (hs : ∀ i, i < a.heap.size → S' i → S i) : Touch S a c :=
  ⟨k.os.trans h.os, k.tape.trans h.tape, k.output.trans h.output, Nat.le_trans h.size k.size, fun i hi hn =>
    (k.block i (Nat.lt_of_lt_of_le hi h.size) (fun e => hn (hs i hi e))).trans (h.block i hi hn)⟩
theorem Touch.mono (h : Touch S a b) (hs : ∀ i, i < a.heap.size → S i → S' i) : Touch S' a b :=
  ⟨h.os, h.tape, h.output, h.size, fun i hi hn => h.block i hi fun e => hn (hs i hi e)⟩
theorem Touch.alloc (h : Touch S a w) (o : Obj) : Touch S a (w.alloc o) :=
  ⟨h.os, h.tape, h.output, Nat.le_trans h.size (by simp), fun i hi hn => (Below.heap_alloc w o i (Nat.lt_of_lt_of_le hi h.size)).trans (h.block i hi hn)⟩
theorem Touch.drew (h : Touch S a w) : Touch S a w.drew := ⟨h.os, h.tape, h.output, h.size, h.block⟩
theorem Touch.drewN (h : Touch S a w) (n : Nat) : Touch S a (w.drewN n) := ⟨h.os, h.tape, h.output, h.size, h.block⟩
theorem Touch.undrew (h : Touch S a.drew w) : Touch S a w := ⟨h.os, h.tape, h.output, h.size, h.block⟩
theorem Touch.undrewN {n : Nat} (h : Touch S (a.drewN n) w) : Touch S a w := ⟨h.os, h.tape, h.output, h.size, h.block⟩
theorem Touch.setCell (h : Touch S a w) {p : Addr} (hp : p.block < a.heap.size → S p.block) (u : Value) : Touch S a (w.setCell p u) :=
  ⟨h.os, h.tape, h.output, by simpa [World.setCell] using h.size, fun i hi hn => (Below.heap_setCell w p u i (fun e => hn (e ▸ hp (e ▸ hi)))).trans (h.block i hi hn)⟩
theorem Touch.grown {row : Option Nat} (h : Touch S a w) (hg : w.grownBy w' row) (hr : ∀ k, row = some k → k < a.heap.size → S k) : Touch S a w' :=
  ⟨hg.os.trans h.os, hg.tape.trans h.tape, hg.output.trans h.output, Nat.le_trans h.size hg.size, fun i hi hn =>
    (hg.block i (Nat.lt_of_lt_of_le hi h.size) (fun e => hn (hr i e.symm hi))).trans (h.block i hi hn)⟩
theorem Touch.ofBelow {B : Nat} (h : Below B a b) (hs : ∀ i, i < a.heap.size → B ≤ i → S i) : Touch S a b :=
  ⟨h.os, h.tape, h.output, h.size, fun i hi hn => h.block i (Nat.lt_of_not_le fun e => hn (hs i hi e))⟩
theorem Touch.below (h : Touch S a b) {B : Nat} (hB : B ≤ a.heap.size) (hs : ∀ i, i < B → ¬ S i) : Below B a b :=
  ⟨h.os, h.tape, h.output, h.size, fun i hi => h.block i (by omega) (hs i hi)⟩
theorem Touch.cell (h : Touch S a b) {p : Addr} (hp : p.block < a.heap.size) (hs : ¬ S p.block) : b.cell? p = a.cell? p :=
  World.cell?_of_block (w := a) (h.block p.block hp hs)
end touch

/-- Nothing that was there has turned. -/
def Nowhere : Nat → Prop := fun _ => False

/-- A slice at A of n elements, 'size' cells each, reads as the cells xs and lies below block B. -/
def Reads (w : World) (B size : Nat) (A : Option Addr) (n : Nat) (xs : List Value) : Prop :=
  xs.length = n * size ∧ (0 < n → ∃ ad, A = some ad ∧ ad.block < B ∧ ∀ j u, xs[j]? = some u → w.cell? (ad.add j) = some u)

section reads
variable {w w' : World} {B B' size n : Nat} {A : Option Addr} {xs : List Value} {S : Nat → Prop}
theorem Reads.empty (w : World) (B size : Nat) (A : Option Addr) : Reads w B size A 0 [] := ⟨by simp, fun h => absurd h (by omega)⟩
theorem Reads.at1 {k : Nat} (h : Reads w B 1 A n xs) (hk : k < n) : ∃ ad u, A = some ad ∧ ad.block < B ∧ xs[k]? = some u ∧ w.cell? (ad.add k) = some u := by
  obtain ⟨ad, e, hb, hc⟩ := h.2 (by omega)
  have hl : k < xs.length := by have := h.1; omega
  exact ⟨ad, xs[k], e, hb, List.getElem?_eq_getElem hl, hc k _ (List.getElem?_eq_getElem hl)⟩
theorem Reads.keep (h : Reads w B size A n xs) (hk : ∀ p : Addr, p.block < B → w'.cell? p = w.cell? p) : Reads w' B size A n xs :=
  ⟨h.1, fun hn => by
    obtain ⟨ad, e, hb, hc⟩ := h.2 hn
    exact ⟨ad, e, hb, fun j u hu => (hk _ (by rw [addr_block]; exact hb)).trans (hc j u hu)⟩⟩
theorem Reads.more (h : Reads w B size A n xs) (hB : B ≤ B') : Reads w B' size A n xs :=
  ⟨h.1, fun hn => by
    obtain ⟨ad, e, hb, hc⟩ := h.2 hn
    exact ⟨ad, e, by omega, hc⟩⟩
theorem Reads.below (h : Reads w B size A n xs) (hb : Below B w w') : Reads w' B size A n xs := h.keep fun _ hp => hb.cell hp
theorem Reads.touch (h : Reads w B size A n xs) (ht : Touch S w w') (hB : B ≤ w.heap.size) (hs : ∀ i, i < B → ¬ S i) : Reads w' B size A n xs := h.below (ht.below hB hs)
theorem Reads.own {base : Nat} {e : TypeId} {c : Nat} (h : w.ownsRow base e size (.slice A n c) n xs) : Reads w w.heap.size size A n xs := by
  refine ⟨h.1, fun hn => ?_⟩
  rcases h.2 with ⟨_, h0⟩ | ⟨g, cap, cur, hv, _, hh, _⟩
  · omega
  · have hA : A = some ⟨g, 0, none⟩ := by injection hv
    subst hA
    exact ⟨_, rfl, lt_of_block hh, h.cells (g := g) rfl⟩
/-- A cut at the front, at a capacity that is known not to be reached. -/
theorem Reads.cut (h : Reads w B size A n xs) {k cap : Nat} (hk : k ≤ n) (hc : n ≤ cap) :
    Reads w B size (if cap = k then A else A.map (·.add (k * size))) (n - k) (xs.drop (k * size)) := by
  refine ⟨by rw [List.length_drop, h.1, Nat.sub_mul], fun hn => ?_⟩
  obtain ⟨ad, rfl, hb, hcell⟩ := h.2 (by omega)
  rw [if_neg (by omega)]
  refine ⟨ad.add (k * size), rfl, by rw [addr_block]; exact hb, fun j u hu => ?_⟩
  rw [addr_add]
  exact hcell _ u (by rw [← hu, List.getElem?_drop])
theorem Reads.take (h : Reads w B size A n xs) {k : Nat} (hk : k ≤ n) : Reads w B size A k (xs.take (k * size)) := by
  have hm : k * size ≤ n * size := Nat.mul_le_mul_right _ hk
  refine ⟨by rw [List.length_take, h.1]; omega, fun hn => ?_⟩
  obtain ⟨ad, e, hb, hc⟩ := h.2 (by omega)
  refine ⟨ad, e, hb, fun j u hu => hc j u ?_⟩
  rw [List.getElem?_take] at hu
  split at hu
  · exact hu
  · cases hu
end reads

/-- Block g is just the cells cs of element type t, none frozen. -/
def Blk (w : World) (g : Nat) (t : TypeId) (cs : Array Value) : Prop := w.heap[g]? = some (.cells cs t (0, 0))

section blk
variable {w w' : World} {g : Nat} {t : TypeId} {cs : Array Value} {S : Nat → Prop}
theorem Blk.lt (h : Blk w g t cs) : g < w.heap.size := lt_of_block h
theorem Blk.cell (h : Blk w g t cs) (i : Nat) : w.cell? ⟨g, i, none⟩ = cs[i]? := cell_of_row w g i cs t (0, 0) h
theorem Blk.free (h : Blk w g t cs) (i : Nat) : w.frozen? ⟨g, i, none⟩ = false := frozen_of_row w g i cs t h
theorem Blk.new (w : World) (t : TypeId) (cs : Array Value) : Blk (w.alloc (.cells cs t)) w.heap.size t cs := heap_alloc_new w _
theorem Blk.drew (h : Blk w g t cs) : Blk w.drew g t cs := h
theorem Blk.drewN (h : Blk w g t cs) (n : Nat) : Blk (w.drewN n) g t cs := h
theorem Blk.alloc (h : Blk w g t cs) (o : Obj) : Blk (w.alloc o) g t cs := (Below.heap_alloc w o g h.lt).trans h
theorem Blk.put (h : Blk w g t cs) (i : Nat) (u : Value) : Blk (w.setCell ⟨g, i, none⟩ u) g t (cs.setIfInBounds i u) := by
  unfold Blk at h ⊢
  simp [World.setCell, Array.getElem?_modify, h]
theorem Blk.far (h : Blk w g t cs) {p : Addr} (hp : g ≠ p.block) (u : Value) : Blk (w.setCell p u) g t cs := (Below.heap_setCell w p u g hp).trans h
theorem Blk.touch (h : Blk w g t cs) (ht : Touch S w w') (hs : ¬ S g) : Blk w' g t cs := (ht.block g h.lt hs).trans h
theorem Blk.below {B : Nat} (h : Blk w g t cs) (hb : Below B w w') (hg : g < B) : Blk w' g t cs := (hb.block g hg).trans h
theorem Blk.grown {row : Option Nat} (h : Blk w g t cs) (hb : w.grownBy w' row) (hg : some g ≠ row) : Blk w' g t cs := (hb.block g h.lt hg).trans h
theorem Blk.unlike {g' : Nat} {t' : TypeId} {cs' : Array Value} (h : Blk w g t cs) (h' : Blk w g' t' cs') (hne : t ≠ t') : g ≠ g' := by
  rintro rfl
  unfold Blk at h h'
  rw [h] at h'
  injection h' with h'
  injection h' with _ ht
  exact hne ht
end blk

theorem own_touch {w w' : World} {S : Nat → Prop} {base : Nat} {e : TypeId} {size : Nat} {v : Value} {n : Nat} {xs : List Value}
    (h : w.ownsRow base e size v n xs) (ht : Touch S w w') (hs : ∀ g, base ≤ g → ¬ S g) : w'.ownsRow base e size v n xs := by
  obtain ⟨h1, h2⟩ := h
  refine ⟨h1, ?_⟩
  rcases h2 with h2 | ⟨g, cap, cur, hv, hg, hh, r⟩
  · exact Or.inl h2
  · exact Or.inr ⟨g, cap, cur, hv, hg, by rw [ht.block g (lt_of_block hh) (hs g hg)]; exact hh, r⟩
theorem own_touch1 {w w' : World} {b base : Nat} {e : TypeId} {size : Nat} {v : Value} {n : Nat} {xs : List Value}
    (h : w.ownsRow base e size v n xs) (ht : Touch (· = b) w w') (hb : b < base) : w'.ownsRow base e size v n xs :=
  own_touch h ht fun g hg (he : g = b) => by omega
theorem own_touch2 {w w' : World} {b c base : Nat} {e : TypeId} {size : Nat} {v : Value} {n : Nat} {xs : List Value}
    (h : w.ownsRow base e size v n xs) (ht : Touch (fun x => x = b ∨ x = c) w w') (hb : b < base) (hc : c < base) : w'.ownsRow base e size v n xs :=
  own_touch h ht fun g hg (he : g = b ∨ g = c) => by omega
theorem own_slice {w : World} {base : Nat} {e : TypeId} {size : Nat} {v : Value} {n : Nat} {xs : List Value} (h : w.ownsRow base e size v n xs) : ∃ A c, v = .slice A n c := by
  rcases h.2 with ⟨h1, h2⟩ | ⟨g, cap, cur, hv, _⟩
  · exact ⟨none, 0, by rw [h1, h2]⟩
  · exact ⟨_, _, hv⟩
theorem own_drew {w : World} {base : Nat} {e : TypeId} {size : Nat} {v : Value} {n : Nat} {xs : List Value} (h : w.ownsRow base e size v n xs) : w.drew.ownsRow base e size v n xs := h
theorem own_far {w : World} {base : Nat} {e : TypeId} {size : Nat} {v : Value} {n : Nat} {xs : List Value} (h : w.ownsRow base e size v n xs) {p : Addr} (hp : p.block < base) (u : Value) : (w.setCell p u).ownsRow base e size v n xs :=
  ownsRow_setCell_below h hp u
theorem own_apart {w : World} {base : Nat} {e : TypeId} {size : Nat} {v : Value} {n : Nat} {xs : List Value} (h : w.ownsRow base e size v n xs) {b : Nat} (hb : b < base) : v.ownBlock ≠ some b := fun e => by
  have := (h.lt b e).1
  omega
theorem grown_touch {w w' : World} {row : Option Nat} (hg : w.grownBy w' row) : Touch (fun b => row = some b) w w' :=
  (Touch.refl _ w).grown hg fun _ h _ => h

theorem catch_idle (p : Addr) (w : World) :
    CallsD Tryd.prog 29 #[.pointer (some p)] .returning w fun e u' w' => e = .returned (.tuple #[]) ∧ u' = .returning ∧ w' = w := by
  refine callsD_of_wpS Tryd.func29 rfl fun c₀ cs hu => ?_
  apply wpS_seq
  apply wpS_region
  simp [wpOpsS, go_sem, recoverD, hu, Tryd.ntmps29, Exit.thenS]
  refine wpS_cond (t := false) (by simp [Act.eval, Array.replicate]) ?_
  simp only [Bool.false_eq_true, if_false]
  refine wpS_of_wp (wp_skip ?_)
  cases c₀
  simp_all [bodyPostS, results, Tryd.results29]

/-- quietly over a closure that returns: true. -/
theorem quietly_27 (p1 p2 p3 : Value) (w : World) (R : World → Prop)
    (hg : Calls Tryd.prog 27 #[p1, p2, p3] (w.alloc (.cells #[.bool false] 4)) fun e w' => e = .returned (.tuple #[]) ∧ R w' ∧ Blk w' w.heap.size 4 #[.bool false]) :
    Calls Tryd.prog 15 #[.func (.func 27) #[] #[p1, p2, p3]] w fun e w' => e = .returned (.bool true) ∧ ∃ w1, R w1 ∧ w' = w1.setCell ⟨w.heap.size, 0, none⟩ (.bool true) := by
  have H := Lib.hid hg
  clear hg
  have hmf : ∀ (fn : Fn) (first cap : Array Value) (w : World), (Instr.makeFunc fn first cap).run Tryd.prog w = .ok (.func fn first cap) w := fun _ _ _ _ => rfl
  go_enter_defers Tryd.func15, Tryd.ntmps15
  go_wp2_with fail
  refine H.out.mono ?_
  rintro e w1 ⟨rfl, hR, hb⟩
  have hc := hb.cell 0
  have hf := hb.free 0
  simp only [List.getElem?_toArray, List.getElem?_cons_zero] at hc
  have HR := Lib.hid hR
  have HB := Lib.hid hb
  clear hR hb
  go_wp2_with fail
  refine leaves_cons (f := 29) (args := #[.pointer (some ⟨w.heap.size, 0, none⟩)]) (by simp) (by simp [go_sem]) ?_
  refine (catch_idle ⟨w.heap.size, 0, none⟩ _).mono ?_
  rintro e u' w'' ⟨rfl, rfl, rfl⟩
  have hb2 : (w1.setCell ⟨w.heap.size, 0, none⟩ (.bool true)).cell? ⟨w.heap.size, 0, none⟩ = some (.bool true) := by
    simp [go_sem, hc]
  simp [Leaves, settle, results, Tryd.results15, go_sem, hb2]
  exact ⟨w1, HR.out, rfl⟩

open Go.RowKit

theorem wrap_i16 (n : Int) : IntKind.i16.wrap n = (n + 32768) % 65536 - 32768 := by
  simp only [IntKind.wrap, IntKind.bits, IntKind.signed]
  simp
  split <;> omega

/-- The difference, taken as near to 0 as it goes. -/
def nearD (n x : Int) : Int := (x - n + 32768) % 65536 - 32768

theorem nearD_eq (n x : Int) : wrap64 (IntKind.i16.wrap (IntKind.u16.wrap (x - IntKind.u16.wrap n))) = nearD n x := by
  rw [IntWalk.wrap64_in _ (by rw [wrap_i16]; omega), wrap_i16, IntKind.wrap_u16, IntKind.wrap_u16]
  unfold nearD
  omega
theorem nearD_range (n x : Int) : -32768 ≤ nearD n x ∧ nearD n x ≤ 32767 := by unfold nearD; omega

set_option maxHeartbeats 400000 in
theorem near_any (n x : Int) (w : World) (h0 : -1 ≤ n) (h1 : n ≤ 140737488355328) :
    Calls Tryd.prog 12 #[.int .i64 n, .int .u16 x] w fun e w' => e = .returned (.tuple #[.int .i64 (n + nearD n x), .bool (nearD n x != -32768)]) ∧ w = w' := by
  go_enter Tryd.func12, Tryd.ntmps12
  go_wp2
  go_ret2
  have h := nearD_range n x
  simp only [nearD_eq]
  simp [IntWalk.wrap64_in (n + nearD n x) (by omega)]

/-- Is a number newer than another one (of 16 bits)? -/
def newer (a b : Int) : Bool := if (a - b) % 65536 = 32768 then decide (b < a) else decide (a ≠ b ∧ (a - b) % 65536 < 32768)

set_option maxHeartbeats 400000 in
theorem newer_any (a b : Int) (w : World) :
    Calls Tryd.prog 36 #[.int .u16 a, .int .u16 b] w fun e w' => e = .returned (.bool (newer a b)) ∧ w = w' := by
  go_enter Tryd.func36, Tryd.ntmps36
  go_wp2
  · go_ret
    rename_i h
    refine ⟨?_, rfl⟩
    simp only [beq_iff_eq, IntKind.wrap_u16] at h
    simp [newer, h]
  · go_ret
    rename_i h h2
    subst h2
    exact ⟨by simp [newer], rfl⟩
  · go_ret
    rename_i h h2
    refine ⟨?_, rfl⟩
    simp only [beq_eq_false_iff_ne, IntKind.wrap_u16] at h
    simp [newer, h, h2, IntKind.wrap_u16]

/-- One step of the unwrapper behind the first one: the difference d (of 16 bits), whether the number is newer. -/
def unwrapF (last x : Int) : Int :=
  if newer x (last % 65536) then last + (x - last) % 65536
  else if 0 < (x - last) % 65536 ∧ 0 ≤ last + (x - last) % 65536 - 65536 then last + (x - last) % 65536 - 65536 else last + (x - last) % 65536

set_option maxHeartbeats 400000 in
theorem unwrap_first (g : Nat) (l x : Int) (w : World) (hb : Blk w g 73 #[.bool false, .int .i64 l]) (x0 : 0 ≤ x) (x1 : x ≤ 65535) :
    Calls Tryd.prog 28 #[.pointer (some ⟨g, 0, none⟩), .int .u16 x] w fun e w' => e = .returned (.int .i64 x) ∧ w' = (w.setCell ⟨g, 0, none⟩ (.bool true)).setCell ⟨g, 1, none⟩ (.int .i64 x) := by
  have c0 := hb.cell 0
  have c1 := hb.cell 1
  have f0 := hb.free 0
  have f1 := hb.free 1
  simp at c0 c1
  have HB := Lib.hid hb
  clear hb
  go_enter Tryd.func28, Tryd.ntmps28
  go_wp2
  go_ret
  exact ⟨rfl, rfl⟩

set_option maxHeartbeats 400000 in
theorem unwrap_next (g : Nat) (l x : Int) (w : World) (hb : Blk w g 73 #[.bool true, .int .i64 l]) (x0 : 0 ≤ x) (x1 : x ≤ 65535) (l0 : 0 ≤ l) (l1 : l ≤ 140737488355328) :
    Calls Tryd.prog 28 #[.pointer (some ⟨g, 0, none⟩), .int .u16 x] w fun e w' => e = .returned (.int .i64 (unwrapF l x)) ∧ w' = w.setCell ⟨g, 1, none⟩ (.int .i64 (unwrapF l x)) := by
  have c0 := hb.cell 0
  have c1 := hb.cell 1
  have f0 := hb.free 0
  have f1 := hb.free 1
  simp at c0 c1
  have HB := Lib.hid hb
  clear hb
  obtain ⟨d, hd, d0, d1, hd'⟩ : ∃ d, IntKind.u16.wrap (x - IntKind.u16.wrap l) = d ∧ 0 ≤ d ∧ d ≤ 65535 ∧ d = (x - l) % 65536 :=
    ⟨_, rfl, by rw [IntKind.wrap_u16]; omega, by rw [IntKind.wrap_u16]; omega, by simp only [IntKind.wrap_u16]; omega⟩
  have HD := Lib.hid hd'
  clear hd'
  obtain ⟨y, hy, hy'⟩ : ∃ y, IntKind.u16.wrap l = y ∧ y = l % 65536 := ⟨_, rfl, by rw [IntKind.wrap_u16]⟩
  have HY := Lib.hid hy'
  clear hy'
  rw [hy] at hd
  obtain ⟨r, hr⟩ : ∃ r, unwrapF l x = r := ⟨_, rfl⟩
  have HR := Lib.hid hr
  rw [hr]
  clear hr
  by_cases hn : newer x y = true
  · go_enter Tryd.func28, Tryd.ntmps28
    go_wp2_with (go_at_call 36; refine (newer_any _ _ _).mono ?_; rintro e w' ⟨rfl, rfl⟩)
    go_ret
    have e1 : l + d = r := by rw [← HR.out, unwrapF, ← HY.out, if_pos hn, HD.out]
    simp [e1]
  · have hn2 : newer x y = false := by simpa using hn
    clear hn
    have hR : r = if 0 < d ∧ 0 ≤ l + d - 65536 then l + d - 65536 else l + d := by
      rw [← HR.out, unwrapF, ← HY.out, if_neg (by simp [hn2]), HD.out]
    have HR2 := Lib.hid hR
    clear hR
    by_cases h1 : 0 < d
    · by_cases h2 : 0 ≤ l + d - 65536
      · go_enter Tryd.func28, Tryd.ntmps28
        go_wp2_with (go_at_call 36; refine (newer_any _ _ _).mono ?_; rintro e w' ⟨rfl, rfl⟩)
        go_ret
        have e1 : l + (d - 65536) = r := by rw [HR2.out, if_pos ⟨h1, h2⟩]; omega
        simp [e1]
      · go_enter Tryd.func28, Tryd.ntmps28
        go_wp2_with (go_at_call 36; refine (newer_any _ _ _).mono ?_; rintro e w' ⟨rfl, rfl⟩)
        go_ret
        have e1 : l + d = r := by rw [HR2.out, if_neg (by omega)]
        simp [e1]
    · go_enter Tryd.func28, Tryd.ntmps28
      go_wp2_with (go_at_call 36; refine (newer_any _ _ _).mono ?_; rintro e w' ⟨rfl, rfl⟩)
      go_ret
      have e1 : l + d = r := by rw [HR2.out, if_neg (by omega)]
      simp [e1]
/-- The unwrapper, called in whatever state. -/
def stepF (b : Bool) (l x : Int) : Int := if b then unwrapF l x else x
theorem unwrap_any (g : Nat) (b : Bool) (l x : Int) (w : World) (hb : Blk w g 73 #[.bool b, .int .i64 l]) (x0 : 0 ≤ x) (x1 : x ≤ 65535) (l0 : 0 ≤ l) (l1 : l ≤ 140737488355328) :
    Calls Tryd.prog 28 #[.pointer (some ⟨g, 0, none⟩), .int .u16 x] w fun e w' => e = .returned (.int .i64 (stepF b l x)) ∧
      Blk w' g 73 #[.bool true, .int .i64 (stepF b l x)] ∧ w'.heap.size = w.heap.size ∧ Touch (· = g) w w' := by
  cases b
  · refine (unwrap_first g l x w hb x0 x1).mono ?_
    rintro e w' ⟨rfl, rfl⟩
    refine ⟨rfl, ?_, by simp [World.setCell], ((Touch.refl (· = g) w).setCell (p := ⟨g, 0, none⟩) (fun _ => rfl) _).setCell (p := ⟨g, 1, none⟩) (fun _ => rfl) _⟩
    simpa [stepF] using (hb.put 0 (.bool true)).put 1 (.int .i64 x)
  · refine (unwrap_next g l x w hb x0 x1 l0 l1).mono ?_
    rintro e w' ⟨rfl, rfl⟩
    refine ⟨rfl, ?_, by simp [World.setCell], (Touch.refl (· = g) w).setCell (p := ⟨g, 1, none⟩) (fun _ => rfl) _⟩
    simpa [stepF] using hb.put 1 (.int .i64 (unwrapF l x))

open Go.RowKit

theorem info_i64 : (Tryd.prog.info? 2).map (fun i => (i.zero, i.size, i.bytes)) = some (some (.int .i64 0), 1, 8) := by kernel_rfl

/-- The unwrapped numbers, one by one. -/
def unwrapAt (ls : List Int) : Nat → Int
  | 0 => ls.getD 0 0
  | i + 1 => unwrapF (unwrapAt ls i) (ls.getD (i + 1) 0)
def unwrapL (ls : List Int) : List Int := (List.range ls.length).map (unwrapAt ls)

theorem unwrapF_range (l x : Int) (h0 : 0 ≤ l) : 0 ≤ unwrapF l x ∧ unwrapF l x ≤ l + 65535 := by
  unfold unwrapF
  split
  · omega
  · split <;> omega

theorem unwrapAt_range (ls : List Int) (h : ∀ x ∈ ls, 0 ≤ x ∧ x ≤ 65535) : ∀ i, 0 ≤ unwrapAt ls i ∧ unwrapAt ls i ≤ 65535 * (i + 1 : Nat)
  | 0 => by
    have : 0 ≤ ls.getD 0 0 ∧ ls.getD 0 0 ≤ 65535 := by
      cases ls with
      | nil => simp
      | cons a t => exact h a (by simp)
    simpa [unwrapAt] using this
  | i + 1 => by
    have ih := unwrapAt_range ls h i
    have := unwrapF_range (unwrapAt ls i) (ls.getD (i + 1) 0) ih.1
    simp only [unwrapAt]
    omega


def UInv (bo bu : Nat) (ls : List Int) (w : World) (k : Nat) (wr : World) : Prop :=
  ∃ v, Blk wr bo 23 #[v] ∧ Blk wr bu 73 #[.bool (decide (0 < k)), .int .i64 (if k = 0 then 0 else unwrapAt ls (k - 1))] ∧
    wr.ownsRow w.heap.size 2 1 v k (((List.range k).map (unwrapAt ls)).map (Value.int .i64)) ∧ Touch (fun b => b = bo ∨ b = bu) w wr

theorem uinv_step {bo bu k gg cap : Nat} {ls : List Int} {w wr w1 w2 : World} {v : Value} {l x : Int} {o : Obj}
    (HL : (if k = 0 then 0 else unwrapAt ls (k - 1)) = l) (HX : x = ls.getD k 0) (HT : Touch (fun b => b = bo ∨ b = bu) w wr) (HT1 : Touch (· = bu) wr w1)
    (HU1 : Blk w1 bu 73 #[.bool true, .int .i64 (stepF (decide (0 < k)) l x)]) (HV1 : Blk w1 bo 23 #[v])
    (HO1 : w1.ownsRow w.heap.size 2 1 v k (((List.range k).map (unwrapAt ls)).map (Value.int .i64)))
    (hown2 : w2.ownsRow w.heap.size 2 1 (.slice (some ⟨gg, 0, none⟩) (k + 1) cap) (k + 1) (((List.range k).map (unwrapAt ls)).map (Value.int .i64) ++ [.int .i64 (stepF (decide (0 < k)) l x)]))
    (hgrow : (w1.alloc o).grownBy w2 v.ownBlock) (ob : bo < w.heap.size) (ou : bu < w.heap.size) (d3 : bo ≠ bu) :
    UInv bo bu ls w (k + 1) (w2.setCell ⟨bo, 0, none⟩ (.slice (some ⟨gg, 0, none⟩) (k + 1) cap)) := by
  have hx : stepF (decide (0 < k)) l x = unwrapAt ls k := by
    cases k with
    | zero => simp [stepF, HX, unwrapAt]
    | succ j => simp [stepF, HX, unwrapAt, ← HL]
  rw [hx] at hown2 HU1
  have hb2 := (HV1.alloc o).grown hgrow (own_apart HO1 ob).symm
  have hu2 := (HU1.alloc o).grown hgrow (own_apart HO1 ou).symm
  refine ⟨_, by simpa using hb2.put 0 _, ?_, ?_, ?_⟩
  · have := hu2.far (p := ⟨bo, 0, none⟩) (Ne.symm d3) (.slice (some ⟨gg, 0, none⟩) (k + 1) cap)
    simpa using this
  · have := own_far hown2 (p := ⟨bo, 0, none⟩) ob (.slice (some ⟨gg, 0, none⟩) (k + 1) cap)
    simpa [List.range_succ] using this
  · have t1 : Touch (fun b => b = bo ∨ b = bu) w w1 := HT.trans HT1 fun i _ h => .inr h
    have t2 : Touch (fun b => b = bo ∨ b = bu) w w2 := (t1.alloc o).grown hgrow fun g hg hlt => by
      have := (HO1.lt g hg).1
      omega
    exact t2.setCell (p := ⟨bo, 0, none⟩) (fun _ => .inl rfl) _

set_option maxRecDepth 100000 in
set_option maxHeartbeats 800000 in
theorem unwrap_closure (bl bo bu n c base : Nat) (A : Option Addr) (ls : List Int) (w : World)
    (hbl : Blk w bl 22 #[.slice A n c]) (hbo : Blk w bo 23 #[.slice none 0 0]) (hbu : Blk w bu 73 #[.bool false, .int .i64 0])
    (hr : Reads w base 1 A n (ls.map (Value.int .u16))) (hn : n ≤ 1000) (hls : ∀ x ∈ ls, 0 ≤ x ∧ x ≤ 65535)
    (o1 : base ≤ bl) (o2 : base ≤ bo) (o3 : base ≤ bu) (d3 : bo ≠ bu) :
    Calls Tryd.prog 27 #[.pointer (some ⟨bl, 0, none⟩), .pointer (some ⟨bo, 0, none⟩), .pointer (some ⟨bu, 0, none⟩)] w fun e w' => e = .returned (.tuple #[]) ∧
      ∃ v, Blk w' bo 23 #[v] ∧ w'.ownsRow w.heap.size 2 1 v n ((unwrapL ls).map (Value.int .i64)) ∧ Touch (fun b => b = bo ∨ b = bu) w w' := by
  obtain ⟨i0, hi0, hz0, hz1, hz2⟩ := info_parts info_i64
  have cl := hbl.cell 0
  simp at cl
  have hB : base ≤ w.heap.size := by have := hbl.lt; omega
  have ob := hbo.lt
  have ou := hbu.lt
  have hlen : ls.length = n := by simpa using hr.1
  have HBL := Lib.hid hbl
  have HBO := Lib.hid hbo
  have HBU := Lib.hid hbu
  have HR := Lib.hid hr
  have HLS := Lib.hid hls
  have HLEN := Lib.hid hlen
  clear hbl hbo hbu hr hls hlen
  go_enter Tryd.func27, Tryd.ntmps27
  go_wp2_with fail
  go_loopw [7] (fun i wr => ∃ k : Nat, k ≤ n ∧ i = .int .i64 k ∧ Hid (UInv bo bu ls w k wr)) (fun i _ => n - (intOf i).toNat)
  case atStart => exact ⟨0, by omega, rfl, ⟨_, HBO.out, HBU.out, World.ownsRow_nil _ _ _ _, Touch.refl _ _⟩⟩
  case round =>
    obtain ⟨k, hk, rfl, hinv⟩ := hrel
    by_cases hlt : k < n
    · obtain ⟨v, hv, hu, hown, ht⟩ := hinv.out
      have hr2 := HR.out.touch ht hB (by intro i hi; omega)
      obtain ⟨ad, u, rfl, hab, hu1, hc⟩ := hr2.at1 hlt
      obtain ⟨x, rfl, hx, x0, x1⟩ : ∃ x, u = .int .u16 x ∧ x = ls.getD k 0 ∧ 0 ≤ x ∧ x ≤ 65535 := by
        have hl := HLEN.out
        rw [List.getElem?_map, List.getElem?_eq_getElem (by omega)] at hu1
        simp only [Option.map_some, Option.some.injEq] at hu1
        refine ⟨ls[k], hu1.symm, by simp [List.getD, List.getElem?_eq_getElem (show k < ls.length by omega)], ?_⟩
        exact HLS.out _ (List.getElem_mem _)
      have HX := Lib.hid hx
      obtain ⟨l, hl, l0, l1⟩ : ∃ l, (if k = 0 then 0 else unwrapAt ls (k - 1)) = l ∧ 0 ≤ l ∧ l ≤ 140737488355328 := by
        refine ⟨_, rfl, ?_⟩
        split
        · omega
        · have := unwrapAt_range ls HLS.out (k - 1)
          omega
      rw [hl] at hu
      have HL := Lib.hid hl
      have co := hv.cell 0
      have fo := hv.free 0
      simp at co
      have lbo := hv.lt
      have HV := Lib.hid hv
      have HU := Lib.hid hu
      have HOWN := Lib.hid hown
      have HT := Lib.hid ht
      clear hu1 hinv hr2 hx hl hv hu hown ht
      go_wp2_with fail
      go_region_law
        (first
          | (go_simp; go_at_call 28; refine (unwrap_any bu (decide (0 < k)) l x _ ?_ x0 x1 l0 l1).mono ?_; (exact HU.out); rintro e w1 ⟨rfl, hu1, hsz1, ht1⟩; have HO1 := Lib.hid (own_touch1 HOWN.out ht1.undrew ou); have HU1 := Lib.hid hu1; have HS1 := Lib.hid hsz1; have hv1 := HV.out.touch ht1.undrew d3; have co1 : w1.cell? ⟨bo, 0, none⟩ = some v := hv1.cell 0; have lbo1 := hv1.lt; have HV1 := Lib.hid hv1; have HT1 := Lib.hid ht1.undrew; clear hsz1 hu1 hv1 ht1)
          | (refine step_append_lies _ (by rfl) _ _ _ (by rfl) w.heap.size 2 i0 _ 1 8 Tryd.underlying23 hi0 hz0 hz1 hz2 rfl (by omega) v k _ (by rfl) (HO1.out.alloc _) ⟨w1.heap.size, 0, none⟩ 1 1 [.int .i64 (stepF (decide (0 < k)) l x)] (by rfl) (by rfl) (World.news_of_block (cs := #[.int .i64 (stepF (decide (0 < k)) l x)]) (t := 2) (fr := (0, 0)) (heap_alloc_new w1 _)) (by simp [Value.oneCell']) (by omega) (by simp only [maxLen]; omega) (by omega) (by have := HT.out.size; have := HT1.out.size; simp; omega) (w1.heap.size + 1) (by simp) ?_; intro gg cap w2 hown2 hgrow hat hlt; have hv2 := (HV1.out.alloc _).grown hgrow (own_apart HO1.out ob).symm; have co2 : w2.cell? ⟨bo, 0, none⟩ = some v := hv2.cell 0; have fo2 := hv2.free 0))
      all_goals go_wp2_with fail
      all_goals exact ⟨⟨k + 1, by omega, by go_num, uinv_step HL.out HX.out HT.out HT1.out HU1.out HV1.out HO1.out hown2 hgrow ob ou d3⟩, by simp [intOf]; omega⟩
    · obtain ⟨v, hv, hu, hown, ht⟩ := hinv.out
      obtain rfl : k = n := by omega
      have HV := Lib.hid hv
      have HU := Lib.hid hu
      have HOWN := Lib.hid hown
      have HT := Lib.hid ht
      clear hv hu hown ht hinv
      go_wp2_with fail
      go_end0
      refine ⟨rfl, v, HV.out, ?_, HT.out⟩
      unfold unwrapL
      rw [HLEN.out]
      exact HOWN.out

theorem unwrap_quiet (bl bo bu n c base : Nat) (A : Option Addr) (ls : List Int) (w : World)
    (hbl : Blk w bl 22 #[.slice A n c]) (hbo : Blk w bo 23 #[.slice none 0 0]) (hbu : Blk w bu 73 #[.bool false, .int .i64 0])
    (hr : Reads w base 1 A n (ls.map (Value.int .u16))) (hn : n ≤ 1000) (hls : ∀ x ∈ ls, 0 ≤ x ∧ x ≤ 65535)
    (o1 : base ≤ bl) (o2 : base ≤ bo) (o3 : base ≤ bu) (d3 : bo ≠ bu) :
    Calls Tryd.prog 15 #[.func (.func 27) #[] #[.pointer (some ⟨bl, 0, none⟩), .pointer (some ⟨bo, 0, none⟩), .pointer (some ⟨bu, 0, none⟩)]] w fun e w' => e = .returned (.bool true) ∧
      ∃ v, Blk w' bo 23 #[v] ∧ w'.ownsRow (w.heap.size + 1) 2 1 v n ((unwrapL ls).map (Value.int .i64)) ∧ Touch (fun b => b = bo ∨ b = bu) w w' := by
  have l1 := hbl.lt
  have l2 := hbo.lt
  have l3 := hbu.lt
  refine (quietly_27 _ _ _ w (fun w1 => ∃ v, Blk w1 bo 23 #[v] ∧ w1.ownsRow (w.heap.size + 1) 2 1 v n ((unwrapL ls).map (Value.int .i64)) ∧ Touch (fun b => b = bo ∨ b = bu) (w.alloc (.cells #[.bool false] 4)) w1) ?_).mono ?_
  · refine (unwrap_closure bl bo bu n c base A ls _ (hbl.alloc _) (hbo.alloc _) (hbu.alloc _) (hr.keep fun p hp => World.cell?_alloc_lt w _ p (by omega)) hn hls o1 o2 o3 d3).mono ?_
    rintro e w' ⟨rfl, v, hv, hown, ht⟩
    refine ⟨rfl, ⟨v, hv, by simpa using hown, ht⟩, ?_⟩
    exact (Blk.new w 4 _).touch ht (by omega)
  · rintro e w' ⟨rfl, w1, ⟨v, hv, hown, ht⟩, rfl⟩
    refine ⟨rfl, v, hv.far (by simp; omega) _, own_far hown (by simp) _, ?_⟩
    have t1 : Touch (fun b => b = bo ∨ b = bu) w w1 := ((Touch.refl _ w).alloc _).trans ht fun _ _ h => h
    exact t1.setCell (by simp) _

set_option maxHeartbeats 800000 in
theorem unwrap_list (n c : Nat) (A : Option Addr) (ls : List Int) (w : World) (B : Nat)
    (hr : Reads w B 1 A n (ls.map (Value.int .u16))) (hB : B ≤ w.heap.size) (hn : n ≤ 1000) (hls : ∀ x ∈ ls, 0 ≤ x ∧ x ≤ 65535) :
    Calls Tryd.prog 14 #[.slice A n c] w fun e w' => ∃ A' c', e = .returned (.slice A' n c') ∧
      Reads w' w'.heap.size 1 A' n ((unwrapL ls).map (Value.int .i64)) ∧ Below w.heap.size w w' := by
  have HR := Lib.hid hr
  have HLS := Lib.hid hls
  clear hr hls
  have hmf : ∀ (fn : Fn) (first cap : Array Value) (w : World), (Instr.makeFunc fn first cap).run Tryd.prog w = .ok (.func fn first cap) w := fun _ _ _ _ => rfl
  go_enter Tryd.func14, Tryd.ntmps14
  go_wp2_with fail
  refine (unwrap_quiet w.heap.size (w.heap.size + 1) (w.heap.size + 1 + 1) n c w.heap.size A ls _ (((Blk.new w 22 _).alloc _).alloc _) ?_ ?_ ?_ hn HLS.out (by omega) (by omega) (by omega) (by omega)).mono ?_
  · have := (Blk.new (w.alloc (.cells #[.slice A n c] 22)) 23 #[.slice none 0 0]).alloc (.cells #[.bool false, .int .i64 0] 73)
    simpa using this
  · have := Blk.new ((w.alloc (.cells #[.slice A n c] 22)).alloc (.cells #[.slice none 0 0] 23)) 73 #[.bool false, .int .i64 0]
    simpa using this
  · exact (HR.out.more hB).below ((((Below.refl _ _).alloc (Nat.le_refl _) _).alloc (by simp) _).alloc (by simp; omega) _)
  rintro e w1 ⟨rfl, v, hv, hown, ht⟩
  obtain ⟨A1, c1, rfl⟩ := own_slice hown
  have cv := hv.cell 0
  have fv := hv.free 0
  simp at cv
  have HV := Lib.hid hv
  have HO := Lib.hid hown
  have HT := Lib.hid ht
  clear hv hown ht
  go_wp2_with fail
  have hb2 := HV.out.put 0 (.slice A1 n c1)
  simp at hb2
  have cv2 := hb2.cell 0
  simp at cv2
  refine bodyPost_ret_by (v := .slice A1 n c1) ?_ rfl ?_
  · simp [results, Tryd.results14, go_sem, cv2]
  have t0 : Touch (fun b => w.heap.size ≤ b) w w1 := (((Touch.refl _ w).alloc _).alloc _ |>.alloc _).trans HT.out fun i hi h => by exact (by rcases h with h | h <;> omega)
  have t1 := t0.setCell (p := ⟨w.heap.size + 1, 0, none⟩) (fun _ => Nat.le_succ _) (.slice A1 n c1)
  refine ⟨A1, c1, rfl, ?_, t1.below (Nat.le_refl _) (fun i hi => by omega)⟩
  have h1 := own_far HO.out (p := ⟨w.heap.size + 1, 0, none⟩) (by simp) (.slice A1 n c1)
  exact Reads.own h1

open Go.RowKit

theorem reads_block {w : World} {g : Nat} {t : TypeId} {cs : Array Value} (h : Blk w g t cs) (size n : Nat) (hs : cs.size = n * size) : Reads w w.heap.size size (some ⟨g, 0, none⟩) n cs.toList := by
  refine ⟨by simpa using hs, fun _ => ⟨_, rfl, h.lt, fun j u hu => ?_⟩⟩
  have hadd : (⟨g, 0, none⟩ : Addr).add j = ⟨g, j, none⟩ := by unfold Addr.add; split <;> simp_all
  rw [hadd, h.cell]
  simpa using hu

set_option maxHeartbeats 800000 in
theorem works_true (w : World) : Calls Tryd.prog 8 #[] w fun e w' => e = .returned (.bool true) ∧ Below w.heap.size w w' := by
  go_enter Tryd.func8, Tryd.ntmps8
  go_wp2_with fail
  refine (unwrap_list 2 2 _ [65535, 0] _ (w.heap.size + 1) ?_ (by simp) (by omega) (by simp)).mono ?_
  · simpa using reads_block (Blk.new w 32 #[.int .u16 65535, .int .u16 0]) 1 2 rfl
  rintro e w1 ⟨A, c, rfl, hr, hb⟩
  have e1 : unwrapL [65535, 0] = [65535, 65536] := by decide
  rw [e1] at hr
  obtain ⟨ad, u, rfl, _, hu, hc⟩ := hr.at1 (k := 1) (by omega)
  simp at hu
  subst hu
  simp [Addr.add] at hc
  have HB := Lib.hid hb
  clear hb hr e1
  go_wp2_with fail
  go_ret
  refine ⟨rfl, ((Below.refl _ _).alloc (Nat.le_refl _) _).trans (HB.out.mono (by simp))⟩

/-- What spec.Steps gives where it gives something: each number nearest to the one before. -/
def StepsRel (ls outs : List Int) : Prop :=
  outs.length = ls.length ∧ ∀ i, i < ls.length → 0 ≤ outs.getD i 0 ∧
    (i = 0 → outs.getD i 0 = ls.getD i 0) ∧ (0 < i → outs.getD i 0 = outs.getD (i - 1) 0 + nearD (outs.getD (i - 1) 0) (ls.getD i 0) ∧ nearD (outs.getD (i - 1) 0) (ls.getD i 0) ≠ -32768)

def StepsPost (ls : List Int) (n : Nat) (w : World) (e : Ending) (w' : World) : Prop :=
  Below w.heap.size w w' ∧ (e = .returned (.tuple #[.slice none 0 0, .bool false]) ∨
    ∃ A c outs, e = .returned (.tuple #[.slice A n c, .bool true]) ∧ Reads w' w'.heap.size 1 A n (outs.map (Value.int .i64)) ∧ StepsRel ls outs)

def SInv (ls : List Int) (w : World) (k : Nat) (v : Value) (wr : World) : Prop :=
  ∃ outs, wr.ownsRow w.heap.size 2 1 v k (outs.map (Value.int .i64)) ∧ StepsRel (ls.take k) outs ∧ Below w.heap.size w wr

theorem steps_range {ls outs : List Int} (h : StepsRel ls outs) (hls : ∀ x ∈ ls, 0 ≤ x ∧ x ≤ 65535) : ∀ i, i < ls.length → 0 ≤ outs.getD i 0 ∧ outs.getD i 0 ≤ 65535 + 32768 * (i : Int)
  | 0, hi => by
    obtain ⟨h0, h1, _⟩ := h.2 0 hi
    have := hls _ (List.getElem_mem hi)
    rw [h1 rfl]
    simp [List.getD, List.getElem?_eq_getElem hi]
    omega
  | i + 1, hi => by
    have ih := steps_range h hls i (by omega)
    obtain ⟨h0, _, h2⟩ := h.2 (i + 1) hi
    have h3 := (h2 (by omega)).1
    have := nearD_range (outs.getD i 0) (ls.getD (i + 1) 0)
    simp only [Nat.add_sub_cancel] at h3
    omega

theorem steps_snoc {ls outs : List Int} {k : Nat} {y : Int} (hk : k < ls.length) (h : StepsRel (ls.take k) outs) (h0 : 0 ≤ y) (h1 : k = 0 → y = ls.getD k 0)
    (h2 : 0 < k → y = outs.getD (k - 1) 0 + nearD (outs.getD (k - 1) 0) (ls.getD k 0) ∧ nearD (outs.getD (k - 1) 0) (ls.getD k 0) ≠ -32768) : StepsRel (ls.take (k + 1)) (outs ++ [y]) := by
  obtain ⟨hl, hr⟩ := h
  have hlk : (ls.take k).length = k := by simp; omega
  rw [hlk] at hl hr
  have hlk1 : (ls.take (k + 1)).length = k + 1 := by simp; omega
  refine ⟨by rw [hlk1]; simp [hl], fun i hi => ?_⟩
  rw [hlk1] at hi
  have hg : (ls.take (k + 1)).getD i 0 = ls.getD i 0 := by simp [List.getD, List.getElem?_take, hi]
  rw [hg]
  by_cases hik : i < k
  · have hg' : (ls.take k).getD i 0 = ls.getD i 0 := by simp [List.getD, List.getElem?_take, hik]
    have ho : (outs ++ [y]).getD i 0 = outs.getD i 0 := by simp [List.getD, List.getElem?_append_left (show i < outs.length by omega)]
    have ho' : (outs ++ [y]).getD (i - 1) 0 = outs.getD (i - 1) 0 := by simp [List.getD, List.getElem?_append_left (show i - 1 < outs.length by omega)]
    have := hr i hik
    rw [hg'] at this
    rw [ho, ho']
    exact this
  · obtain rfl : i = k := by omega
    have ho : (outs ++ [y]).getD i 0 = y := by simp [List.getD, ← hl]
    rw [ho]
    refine ⟨h0, h1, fun hp => ?_⟩
    have ho' : (outs ++ [y]).getD (i - 1) 0 = outs.getD (i - 1) 0 := by simp [List.getD, List.getElem?_append_left (show i - 1 < outs.length by omega)]
    rw [ho']
    exact h2 hp

theorem sinv_step {ls : List Int} {w wr w1 : World} {v : Value} {k : Nat} {y : Int} {outs : List Int} {gg cap : Nat} {o : Obj} (hk : k < ls.length) (hst : StepsRel (ls.take k) outs)
    (h0 : 0 ≤ y) (h1 : k = 0 → y = ls.getD k 0)
    (h2 : 0 < k → y = outs.getD (k - 1) 0 + nearD (outs.getD (k - 1) 0) (ls.getD k 0) ∧ nearD (outs.getD (k - 1) 0) (ls.getD k 0) ≠ -32768)
    (hown : wr.ownsRow w.heap.size 2 1 v k (outs.map (Value.int .i64))) (hb : Below w.heap.size w wr)
    (hown1 : w1.ownsRow w.heap.size 2 1 (.slice (some ⟨gg, 0, none⟩) (k + 1) cap) (k + 1) (outs.map (Value.int .i64) ++ [.int .i64 y]))
    (hgrow : (wr.alloc o).grownBy w1 v.ownBlock) : SInv ls w (k + 1) (.slice (some ⟨gg, 0, none⟩) (k + 1) cap) w1 := by
  refine ⟨outs ++ [y], by simpa using hown1, steps_snoc hk hst h0 h1 h2, ?_⟩
  exact (hb.alloc hb.size o).grown hgrow (by have := hb.size; simp; omega) fun g hg => (hown.lt g hg).1

open Go.RowKit

/-- THE PLAIN LAW: where Steps gives numbers they are the unwrapper's. -/
theorem steps_unwrap {ls outs : List Int} (h : StepsRel ls outs) (hls : ∀ x ∈ ls, 0 ≤ x ∧ x ≤ 65535) : outs = unwrapL ls := by
  have key : ∀ i, i < ls.length → outs.getD i 0 = unwrapAt ls i := by
    intro i
    induction i with
    | zero =>
      intro hi
      rw [((h.2 0 hi).2.1 rfl)]
      rfl
    | succ i ih =>
      intro hi
      obtain ⟨h0, _, h2⟩ := h.2 (i + 1) hi
      obtain ⟨h3, h4⟩ := h2 (by omega)
      simp only [Nat.add_sub_cancel] at h3 h4
      rw [ih (by omega)] at h3 h4
      have hr := unwrapAt_range ls hls i
      show outs.getD (i + 1) 0 = unwrapF (unwrapAt ls i) (ls.getD (i + 1) 0)
      generalize unwrapAt ls i = q at *
      have hx : 0 ≤ ls.getD (i + 1) 0 ∧ ls.getD (i + 1) 0 ≤ 65535 := by
        rw [List.getD, List.getElem?_eq_getElem hi]
        exact hls _ (List.getElem_mem hi)
      generalize ls.getD (i + 1) 0 = x at *
      rw [h3] at h0 ⊢
      unfold unwrapF newer nearD at *
      have e1 : (x - q % 65536) % 65536 = (x - q) % 65536 := by omega
      simp only [e1]
      split <;> simp <;> repeat' split <;> omega
  apply List.ext_getElem
  · rw [h.1]; simp [unwrapL]
  · intro i h1 h2
    have hi : i < ls.length := by rw [← h.1]; exact h1
    have := key i hi
    simp [List.getD, List.getElem?_eq_getElem h1] at this
    simpa [unwrapL] using this

/-- What every law's walk ends in: true, and nothing that was there has turned. -/
def Holds (w : World) (e : Ending) (w' : World) : Prop := e = .returned (.bool true) ∧ Below w.heap.size w w'
end Go.Proofs.YtlkmmkphpiamcaaDoor
