/-
  impl.Queue's closure: words and the end of a round. Conditions: as the queue's. By an AI agent.
-/
import Derived.Test.YtlkmmkphpiamcaaQh
import Derived.Deep.AppendLies
import Derived.Deep.RegionLaw
import Derived.Deep.DeepCutAuto
namespace Go.Proofs.Ytlkmmkphpiamcaa
open Go.RowKit

def anL (l : List An) : List Value := l.flatMap fun a => [.bool a.ok, .int .u16 a.seq, .int .i64 a.n]
theorem anL_snoc (l : List An) (a : An) : anL (l ++ [a]) = anL l ++ [.bool a.ok, .int .u16 a.seq, .int .i64 a.n] := by simp [anL]
theorem anL_len (l : List An) : (anL l).length = l.length * 3 := by
  induction l with
  | nil => rfl
  | cons x l ih => simp only [anL, List.flatMap_cons, List.length_append, List.length_cons, List.length_nil] at ih ⊢; omega
theorem info_an : (Try.prog.info? 59).map (fun i => (i.zero, i.size, i.bytes)) = some (some (.agg #[.bool false, .int .u16 0, .int .i64 0]), 3, 16) := by kernel_rfl

/-- A slice of calls that reads as a list. -/
def StepsAt (w : World) (B : Nat) (A : Option Addr) (n : Nat) (ss : List Stp) : Prop :=
  ss.length = n ∧ (0 < n → ∃ ga off, A = some ⟨ga, off, none⟩ ∧ ga < B ∧ ∀ j s, ss[j]? = some s → w.cell? ⟨ga, off + j * 3, none⟩ = some (.int .i64 s.what) ∧ w.cell? ⟨ga, off + j * 3 + 1, none⟩ = some (.int .u16 s.seq) ∧ w.cell? ⟨ga, off + j * 3 + 2, none⟩ = some (.int .u32 s.time))
theorem StepsAt.keep {w w' : World} {B n : Nat} {A : Option Addr} {ss : List Stp} (h : StepsAt w B A n ss) (hk : ∀ p : Addr, p.block < B → w'.cell? p = w.cell? p) : StepsAt w' B A n ss := by
  refine ⟨h.1, fun hn => ?_⟩
  obtain ⟨ga, off, e, hb, hc⟩ := h.2 hn
  refine ⟨ga, off, e, hb, fun j s hs => ?_⟩
  obtain ⟨h1, h2, h3⟩ := hc j s hs
  exact ⟨(hk _ hb).trans h1, (hk _ hb).trans h2, (hk _ hb).trans h3⟩

theorem Blk.qt {w w' : World} {B g b : Nat} {t : TypeId} {cs : Array Value} (h : Blk w b t cs) (ht : Touch (QT B g w) w w') (h1 : t ≠ 132) (h2 : b ≠ g) : Blk w' b t cs :=
  h.touch ht fun hs => by
    rcases hs with rfl | ⟨_, cs', hc⟩
    · exact h2 rfl
    · exact h.unlike hc h1 rfl
theorem own_qt {w w' : World} {B g base : Nat} {e : TypeId} {size : Nat} {v : Value} {n : Nat} {xs : List Value} (h : w.ownsRow base e size v n xs) (ht : Touch (QT B g w) w w') (h1 : e ≠ 132) (h2 : g < base) : w'.ownsRow base e size v n xs := by
  obtain ⟨a1, a2⟩ := h
  refine ⟨a1, ?_⟩
  rcases a2 with a2 | ⟨b, cap, cur, hv, hb, hh, r⟩
  · exact .inl a2
  · refine .inr ⟨b, cap, cur, hv, hb, ?_, r⟩
    have : Blk w b e cur := hh
    exact this.qt ht h1 (by omega)
theorem own_none {w w' : World} {base : Nat} {e : TypeId} {size : Nat} {v : Value} {n : Nat} {xs : List Value} (h : w.ownsRow base e size v n xs) (ht : Touch Nowhere w w') : w'.ownsRow base e size v n xs := own_touch h ht fun _ _ h => h
theorem own_ne {w : World} {base b : Nat} {e t : TypeId} {size : Nat} {v : Value} {n : Nat} {xs : List Value} {cs : Array Value} (h : w.ownsRow base e size v n xs) (hb : Blk w b t cs) (ht : t ≠ e) : v.ownBlock ≠ some b := by
  rcases h.2 with ⟨rfl, _⟩ | ⟨g, cap, cur, rfl, _, hg, _⟩
  · simp [Value.ownBlock]
  · intro he
    simp only [Value.ownBlock, Option.some.injEq] at he
    subst he
    have : Blk w g e cur := hg
    exact this.unlike hb (Ne.symm ht) rfl

def itOf (n : Nd) : It := ⟨n.seq, n.time⟩
/-- What stands when so many calls have been made; B: where the closure began. -/
structure QS (bo g k B : Nat) (ss : List Stp) (w0 w : World) (ns : List Nd) (v : Value) : Prop where
  out : Blk w bo 47 #[v]
  own : w.ownsRow B 59 3 v k (anL (qOut (ss.take k)))
  queue : QAt B w g ns
  touch : Touch (fun b => b = bo ∨ b = g) w0 w
/-- The same within a round: the answer lies in its box; the queue is that behind the call. -/
structure QM (bo g k B ab : Nat) (ss : List Stp) (w0 w : World) (ns : List Nd) (v : Value) (a : Array Value) : Prop extends QS bo g k B ss w0 w ns v where
  box : Blk w ab 59 a
  fresh : B ≤ ab

section
variable {bo g k B ab : Nat} {ss : List Stp} {w0 w w' : World} {ns ns' : List Nd} {v : Value} {a : Array Value}
theorem QS.idle (h : QS bo g k B ss w0 w ns v) (ht : Touch Nowhere w w') : QS bo g k B ss w0 w' ns v :=
  ⟨h.out.touch ht (fun h => h), own_none h.own ht, h.queue.calm ht (fun _ _ _ _ _ h => h), h.touch.trans ht (fun _ _ h => False.elim h)⟩
theorem QM.idle (h : QM bo g k B ab ss w0 w ns v a) (ht : Touch Nowhere w w') : QM bo g k B ab ss w0 w' ns v a :=
  ⟨h.toQS.idle ht, h.box.touch ht (fun h => h), h.fresh⟩
theorem QM.call (h : QM bo g k B ab ss w0 w ns v a) (hq : QAt B w' g ns') (ht : Touch (QT B g w) w w') (hg : g < B) (hB : w0.heap.size ≤ B) (hog : bo ≠ g) : QM bo g k B ab ss w0 w' ns' v a :=
  ⟨⟨h.out.qt ht (by decide) hog, own_qt h.own ht (by decide) hg, hq, h.touch.trans ht (fun i hi hs => by
    rcases hs with rfl | ⟨hb, _⟩
    · exact .inr rfl
    · omega)⟩, h.box.qt ht (by decide) (by have := h.fresh; omega), h.fresh⟩
theorem QM.put (h : QM bo g k B ab ss w0 w ns v a) (hne : ∀ b, v.ownBlock = some b → b ≠ ab) (hB : w0.heap.size ≤ B) (hob : bo < B) (i : Nat) (u : Value) : QM bo g k B ab ss w0 (w.setCell ⟨ab, i, none⟩ u) ns v (a.setIfInBounds i u) := by
  refine ⟨⟨h.out.far (p := ⟨ab, i, none⟩) (by have := h.fresh; show bo ≠ ab; omega) u, ?_, ?_, h.touch.setCell (p := ⟨ab, i, none⟩) (fun hl => by have := h.fresh; have hl' : ab < w0.heap.size := hl; omega) u⟩, h.box.put i u, h.fresh⟩
  · obtain ⟨a1, a2⟩ := h.own
    refine ⟨a1, ?_⟩
    rcases a2 with a2 | ⟨b, cap, cur, hv, hb, hh, r⟩
    · exact .inl a2
    · exact .inr ⟨b, cap, cur, hv, hb, (Below.heap_setCell w ⟨ab, i, none⟩ u b (hne b (by rw [hv]; rfl))).trans hh, r⟩
  · exact ⟨h.queue.head.far (p := ⟨ab, i, none⟩) (h.queue.head.unlike h.box (by decide)) u, h.queue.seg.keep (fun n hn cs hc => hc.far (p := ⟨ab, i, none⟩) (hc.unlike h.box (by decide)) u) (fun n hn cs hc => hc.far (p := ⟨ab, i, none⟩) (hc.unlike h.box (by decide)) u), h.queue.lows, h.queue.apart⟩
theorem QM.after {w2 : World} {o : Obj} (h : QM bo g k B ab ss w0 w ns v a) (hgrow : (w.alloc o).grownBy w2 v.ownBlock) (hob : bo < B) : w2.cell? ⟨bo, 0, none⟩ = some v ∧ w2.frozen? ⟨bo, 0, none⟩ = false := by
  have ho2 := (h.out.alloc o).grown hgrow (fun e => by have := (h.own.lt bo e.symm).1; omega)
  exact ⟨ho2.cell 0, ho2.free 0⟩
/-- The end of a round. -/
theorem QM.done {s : Stp} {x : An} {w2 : World} {gg cap : Nat} {o : Obj} (h : QM bo g k B ab ss w0 w ns v #[.bool x.ok, .int .u16 x.seq, .int .i64 x.n]) (hs : ss[k]? = some s) (hx : x = qAns s (qSt (ss.take k)))
    (hown : w2.ownsRow B 59 3 (.slice (some ⟨gg, 0, none⟩) (k + 1) cap) (k + 1) (anL (qOut (ss.take k)) ++ [.bool x.ok, .int .u16 x.seq, .int .i64 x.n])) (hgrow : (w.alloc o).grownBy w2 v.ownBlock)
    (hob : bo < B) (hB : w0.heap.size ≤ B) :
    QS bo g (k + 1) B ss w0 (w2.setCell ⟨bo, 0, none⟩ (.slice (some ⟨gg, 0, none⟩) (k + 1) cap)) ns (.slice (some ⟨gg, 0, none⟩) (k + 1) cap) := by
  have hlt := h.own.lt
  have ho2 := (h.out.alloc o).grown hgrow (fun e => by have := (hlt bo e.symm).1; omega)
  have hne : ∀ b t cs, Blk w b t cs → t ≠ 59 → Blk w2 b t cs := fun b t cs hb ht => (hb.alloc o).grown hgrow (fun e => own_ne h.own hb ht e.symm)
  have hbo : ∀ b t cs, Blk w b t cs → t ≠ 59 → t ≠ 47 → Blk (w2.setCell ⟨bo, 0, none⟩ (.slice (some ⟨gg, 0, none⟩) (k + 1) cap)) b t cs := fun b t cs hb h1 h2 =>
    (hne b t cs hb h1).far (p := ⟨bo, 0, none⟩) (hb.unlike h.out h2) _
  refine ⟨by simpa using ho2.put 0 (.slice (some ⟨gg, 0, none⟩) (k + 1) cap), ?_, ?_, ?_⟩
  · have := own_far hown (p := ⟨bo, 0, none⟩) hob (.slice (some ⟨gg, 0, none⟩) (k + 1) cap)
    rw [qOut_take hs, anL_snoc, ← hx]
    exact this
  · exact ⟨hbo _ _ _ h.queue.head (by decide) (by decide), h.queue.seg.keep (fun n hn cs hc => hbo _ _ _ hc (by decide) (by decide)) (fun n hn cs hc => hbo _ _ _ hc (by decide) (by decide)), h.queue.lows, h.queue.apart⟩
  · exact ((h.touch.alloc o).grown hgrow fun b hb hl => by have := (hlt b hb).1; omega).setCell (p := ⟨bo, 0, none⟩) (fun _ => .inl rfl) _
end

def ToldPost (x : An) (w : World) (e : Ending) (w' : World) : Prop := e = .returned (ansV x) ∧ Touch Nowhere w w'
theorem told_n (t : TypeId) (x : Value) (w : World) : Calls Try.prog 46 #[.pointer none, .iface t x] w (ToldPost ⟨false, 0, 0⟩ w) :=
  (told_none t x w).mono fun e w' ⟨h1, h2⟩ => ⟨h1, by subst h2; exact (Touch.refl _ w).alloc _⟩
theorem told_s (pk s t : Nat) (w : World) (h : Blk w pk 139 (pkCells s t)) : Calls Try.prog 46 #[.pointer (some ⟨pk, 0, none⟩), .nilIface] w (ToldPost ⟨true, s, 0⟩ w) :=
  (told_some pk s t w h).mono fun e w' ⟨h1, h2⟩ => ⟨h1, by subst h2; exact (Touch.refl _ w).alloc _⟩
def PkPost (s t : Nat) (w : World) (e : Ending) (w' : World) : Prop := ∃ pk, e = .returned (.pointer (some ⟨pk, 0, none⟩)) ∧ Touch Nowhere w w' ∧ Blk w' pk 139 (pkCells s t) ∧ w.heap.size ≤ pk
theorem packet_p (q : Int) (s t : Nat) (w : World) : Calls Try.prog 45 #[.agg #[.int .i64 q, .int .u16 s, .int .u32 t]] w (PkPost s t w) := by
  go_enter Try.func45, Try.ntmps45
  go_wp2_with fail
  go_ret
  refine ⟨w.heap.size + 1, rfl, ((Touch.refl _ w).alloc _).alloc _, ?_, by omega⟩
  have : w.heap.size + 1 = (w.alloc (.cells #[.int .i64 q, .int .u16 s, .int .u32 t] 45)).heap.size := by simp
  rw [this]
  exact Blk.new _ _ _
end Go.Proofs.Ytlkmmkphpiamcaa
