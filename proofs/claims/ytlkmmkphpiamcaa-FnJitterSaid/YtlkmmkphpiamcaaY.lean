/-
  The priority queue as a list of nodes in memory. Conditions: nodes and packets lie in blocks of their own. By an AI agent.
-/
import Derived.Test.YtlkmmkphpiamcaaN
import Derived.Test.YtlkmmkphpiamcaaE
import Derived.Test.YtlkmmkphpiamcaaAt
import Derived.Test.YtlkmmkphpiamcaaQp
namespace Go.Proofs.Ytlkmmkphpiamcaa
open Go.RowKit

/-- A node of the queue: its block, its packet's block, the packet's number and time. -/
structure Nd where
  blk : Nat
  pk : Nat
  seq : Nat
  time : Nat
def pkCells (s t : Nat) : Array Value :=
  #[.int .u8 2, .bool false, .bool false, .bool false, .int .u8 0, .int .u16 s, .int .u32 t, .int .u32 0, .slice none 0 0, .int .u16 0, .slice none 0 0, .int .u8 0, .int .i64 0, .slice none 0 0, .int .u8 0, .slice none 0 0]
def headV : List Nd → Value
  | [] => .pointer none
  | n :: _ => .pointer (some ⟨n.blk, 0, none⟩)
def NodeAt (w : World) (n : Nd) (nx : Value) : Prop :=
  n.seq ≤ 65535 ∧ n.time ≤ 4294967295 ∧ (∃ pv : Option Addr, Blk w n.blk 132 #[.pointer (some ⟨n.pk, 0, none⟩), nx, .pointer pv, .int .u16 n.seq]) ∧ Blk w n.pk 139 (pkCells n.seq n.time)
def Seg (w : World) : List Nd → Prop
  | [] => True
  | n :: r => NodeAt w n (headV r) ∧ Seg w r

theorem Seg.keep {w w' : World} : ∀ {ns : List Nd}, Seg w ns → (∀ n ∈ ns, ∀ cs, Blk w n.blk 132 cs → Blk w' n.blk 132 cs) → (∀ n ∈ ns, ∀ cs, Blk w n.pk 139 cs → Blk w' n.pk 139 cs) → Seg w' ns
  | [], _, _, _ => trivial
  | n :: r, h, h1, h2 => by
    obtain ⟨⟨a1, a2, ⟨pv, a3⟩, a4⟩, hr⟩ := h
    exact ⟨⟨a1, a2, ⟨pv, h1 n (by simp) _ a3⟩, h2 n (by simp) _ a4⟩, hr.keep (fun m hm => h1 m (by simp [hm])) (fun m hm => h2 m (by simp [hm]))⟩
/-- A store into a block that is no packet's, and none of the nodes'. -/
theorem Seg.far {w : World} {ns : List Nd} {b t i : Nat} {cs : Array Value} (h : Seg w ns) (hb : Blk w b t cs) (ht : t ≠ 139) (hn : ∀ n ∈ ns, n.blk ≠ b) (v : Value) : Seg (w.setCell ⟨b, i, none⟩ v) ns :=
  h.keep (fun n hm _ h1 => h1.far (p := ⟨b, i, none⟩) (hn n hm) v) (fun _ _ _ h1 => h1.far (p := ⟨b, i, none⟩) (h1.unlike hb (Ne.symm ht)) v)
theorem Seg.calm {w w' : World} {ns : List Nd} {S : Nat → Prop} (h : Seg w ns) (ht : Touch S w w') (hS : ∀ b t cs, Blk w b t cs → (t = 132 ∨ t = 139) → ¬ S b) : Seg w' ns :=
  h.keep (fun _ _ _ h1 => h1.touch ht (hS _ _ _ h1 (.inl rfl))) (fun _ _ _ h1 => h1.touch ht (hS _ _ _ h1 (.inr rfl)))
theorem Seg.at_ {w : World} : ∀ {a : List Nd} {n : Nd} {r : List Nd}, Seg w (a ++ n :: r) → NodeAt w n (headV r) ∧ Seg w r
  | [], _, _, h => h
  | _ :: a, _, _, h => Seg.at_ (a := a) h.2
/-- The store of a node's 'prev'. -/
theorem Seg.prev {w : World} : ∀ {a : List Nd} {n : Nd} {r : List Nd}, Seg w (a ++ n :: r) → ((a ++ n :: r).map Nd.blk).Nodup → ∀ x : Option Addr, Seg (w.setCell ⟨n.blk, 2, none⟩ (.pointer x)) (a ++ n :: r)
  | [], n, r, h, hd, x => by
    obtain ⟨⟨a1, a2, ⟨pv, a3⟩, a4⟩, hr⟩ := h
    simp only [List.nil_append, List.map_cons, List.nodup_cons] at hd
    refine ⟨⟨a1, a2, ⟨x, ?_⟩, a4.far (p := ⟨n.blk, 2, none⟩) (a4.unlike a3 (by decide)) _⟩, hr.far a3 (by decide) (fun m hm e => hd.1 (e ▸ List.mem_map_of_mem hm)) _⟩
    have := a3.put 2 (.pointer x)
    simpa using this
  | c :: a, n, r, h, hd, x => by
    obtain ⟨⟨a1, a2, ⟨pv, a3⟩, a4⟩, hr⟩ := h
    simp only [List.cons_append, List.map_cons, List.nodup_cons] at hd
    obtain ⟨⟨_, _, ⟨pv', b3⟩, _⟩, _⟩ := Seg.at_ hr
    have hne : c.blk ≠ n.blk := fun e => hd.1 (e ▸ List.mem_map_of_mem (by simp))
    exact ⟨⟨a1, a2, ⟨pv, a3.far (p := ⟨n.blk, 2, none⟩) hne _⟩, a4.far (p := ⟨n.blk, 2, none⟩) (a4.unlike b3 (by decide)) _⟩, hr.prev hd.2 x⟩
/-- The store of a node's 'next': what followed is dropped, another row of nodes follows. -/
theorem Seg.next {w : World} : ∀ {a : List Nd} {n : Nd} {r r' : List Nd}, Seg w (a ++ n :: r) → Seg w r' → ((a ++ n :: r).map Nd.blk).Nodup → (∀ m ∈ r', m.blk ≠ n.blk) → Seg (w.setCell ⟨n.blk, 1, none⟩ (headV r')) (a ++ n :: r')
  | [], n, r, r', h, h', hd, hn => by
    obtain ⟨⟨a1, a2, ⟨pv, a3⟩, a4⟩, hr⟩ := h
    refine ⟨⟨a1, a2, ⟨pv, ?_⟩, a4.far (p := ⟨n.blk, 1, none⟩) (a4.unlike a3 (by decide)) _⟩, h'.far a3 (by decide) hn _⟩
    have := a3.put 1 (headV r')
    simpa using this
  | c :: a, n, r, r', h, h', hd, hn => by
    obtain ⟨⟨a1, a2, ⟨pv, a3⟩, a4⟩, hr⟩ := h
    simp only [List.cons_append, List.map_cons, List.nodup_cons] at hd
    obtain ⟨⟨_, _, ⟨pv', b3⟩, _⟩, _⟩ := Seg.at_ hr
    have hne : c.blk ≠ n.blk := fun e => hd.1 (e ▸ List.mem_map_of_mem (by simp))
    have hv : headV (a.append (n :: r)) = headV (a ++ n :: r') := by cases a <;> rfl
    rw [hv] at a3
    exact ⟨⟨a1, a2, ⟨pv, a3.far (p := ⟨n.blk, 1, none⟩) hne _⟩, a4.far (p := ⟨n.blk, 1, none⟩) (a4.unlike b3 (by decide)) _⟩, hr.next h' hd.2 hn⟩

/-- The queue: its head cell and its count; the nodes' blocks all differ. -/
structure QL (B : Nat) (w : World) (g : Nat) (ns : List Nd) (L : Nat) : Prop where
  head : Blk w g 129 #[headV ns, .int .u16 L]
  seg : Seg w ns
  lows : ∀ n ∈ ns, B ≤ n.blk ∧ B ≤ n.pk
  apart : (ns.map Nd.blk).Nodup
/-- What the queue's calls may turn: the queue's block, and nodes. -/
def QT (B g : Nat) (w : World) : Nat → Prop := fun b => b = g ∨ (B ≤ b ∧ ∃ cs, Blk w b 132 cs)
theorem Touch.qt {B g : Nat} {a b c : World} (h : Touch (QT B g a) a b) (k : Touch (QT B g b) b c) : Touch (QT B g a) a c :=
  h.trans k fun i hi hb => by
    by_cases hs : QT B g a i
    · exact hs
    · rcases hb with rfl | ⟨hB, cs, hc⟩
      · exact .inl rfl
      · exact .inr ⟨hB, cs, (h.block i hi hs).symm.trans hc⟩
theorem Touch.qtOf {B g : Nat} {a b c : World} (h : Touch Nowhere a b) (k : Touch (QT B g b) b c) : Touch (QT B g a) a c :=
  (h.mono (S' := QT B g a) fun _ _ h => False.elim h).qt k
abbrev QAt (B : Nat) (w : World) (g : Nat) (ns : List Nd) : Prop := QL B w g ns ns.length

section ql
variable {B g L : Nat} {w : World} {ns : List Nd}
theorem QL.node (h : QL B w g ns L) {n : Nd} (hn : n ∈ ns) : ∃ nx pv : Value, n.seq ≤ 65535 ∧ n.time ≤ 4294967295 ∧ Blk w n.blk 132 #[.pointer (some ⟨n.pk, 0, none⟩), nx, pv, .int .u16 n.seq] ∧ Blk w n.pk 139 (pkCells n.seq n.time) := by
  obtain ⟨a, b, hab⟩ := List.append_of_mem hn
  have hs := h.seg
  rw [hab] at hs
  obtain ⟨⟨h1, h2, ⟨pv, hk⟩, hp⟩, _⟩ := Seg.at_ hs
  exact ⟨_, _, h1, h2, hk, hp⟩
theorem QL.notg (h : QL B w g ns L) : ∀ n ∈ ns, n.blk ≠ g := fun n hn e => by
  obtain ⟨_, _, _, _, hk, _⟩ := h.node hn
  exact hk.unlike h.head (by decide) e
theorem QL.off {b i : Nat} {cs : Array Value} (h : QL B w g ns L) (hb : Blk w b 132 cs) (hn : ∀ n ∈ ns, n.blk ≠ b) (v : Value) : QL B (w.setCell ⟨b, i, none⟩ v) g ns L :=
  ⟨h.head.far (p := ⟨b, i, none⟩) (h.head.unlike hb (by decide)) _, h.seg.far hb (by decide) hn _, h.lows, h.apart⟩
theorem QL.len (h : QL B w g ns L) (L' : Nat) : QL B (w.setCell ⟨g, 1, none⟩ (.int .u16 (L' : Int))) g ns L' :=
  ⟨by simpa using h.head.put 1 (.int .u16 (L' : Int)), h.seg.far h.head (by decide) h.notg _, h.lows, h.apart⟩
theorem QL.top {n : Nd} {r : List Nd} (h : QL B w g (n :: r) L) : QL B (w.setCell ⟨g, 0, none⟩ (headV r)) g r L :=
  ⟨by simpa using h.head.put 0 (headV r), h.seg.2.far h.head (by decide) (fun m hm => h.notg m (by simp [hm])) _, fun m hm => h.lows m (by simp [hm]), (List.nodup_cons.1 h.apart).2⟩
theorem QL.prev {a r : List Nd} {n : Nd} (h : QL B w g (a ++ n :: r) L) (x : Option Addr) : QL B (w.setCell ⟨n.blk, 2, none⟩ (.pointer x)) g (a ++ n :: r) L :=
  ⟨h.head.far (p := ⟨n.blk, 2, none⟩) (h.notg n (by simp)).symm _, h.seg.prev h.apart x, h.lows, h.apart⟩
/-- A node behind another is passed by. -/
theorem QL.skip {a r : List Nd} {p n : Nd} (h : QL B w g (a ++ p :: n :: r) L) : QL B (w.setCell ⟨p.blk, 1, none⟩ (headV r)) g (a ++ p :: r) L := by
  have hsub : (a ++ p :: r).Sublist (a ++ p :: n :: r) := List.Sublist.append_left (List.Sublist.cons_cons _ (List.sublist_cons_self _ _)) _
  have hd := h.apart
  have hd2 : ((p :: n :: r).map Nd.blk).Nodup := by
    rw [List.map_append] at hd
    exact hd.sublist (List.sublist_append_right _ _)
  simp only [List.map_cons, List.nodup_cons] at hd2
  have hv : headV (a ++ p :: n :: r) = headV (a ++ p :: r) := by cases a <;> rfl
  refine ⟨?_, h.seg.next (Seg.at_ h.seg).2.2 h.apart (fun m hm e => hd2.1 (e ▸ by simp; exact .inr ⟨m, hm, rfl⟩)), fun m hm => h.lows m (hsub.subset hm), hd.sublist (hsub.map _)⟩
  have := h.head.far (p := ⟨p.blk, 1, none⟩) (h.notg p (by simp)).symm (headV r)
  rwa [hv] at this
theorem QL.calm {w' : World} {S : Nat → Prop} (h : QL B w g ns L) (ht : Touch S w w') (hS : ∀ b t cs, Blk w b t cs → (t = 129 ∨ t = 132 ∨ t = 139) → ¬ S b) : QL B w' g ns L :=
  ⟨h.head.touch ht (hS _ _ _ h.head (by simp)), h.seg.calm ht (fun b t cs hb ht' => hS b t cs hb (.inr ht')), h.lows, h.apart⟩
end ql

theorem newQueue_any (w : World) : Calls Try.prog 42 #[] w fun e w' => e = .returned (.pointer (some ⟨w.heap.size, 0, none⟩)) ∧ w' = w.alloc (.cells #[.pointer none, .int .u16 0] 129) := by
  go_enter Try.func42, Try.ntmps42
  go_wp2_with fail
  go_ret
  exact ⟨rfl, rfl⟩
theorem newNode_any (pk s : Nat) (w : World) : Calls Try.prog 67 #[.pointer (some ⟨pk, 0, none⟩), .int .u16 s] w fun e w' => e = .returned (.pointer (some ⟨w.heap.size, 0, none⟩)) ∧ w' = w.alloc (.cells #[.pointer (some ⟨pk, 0, none⟩), .pointer none, .pointer none, .int .u16 s] 132) := by
  go_enter Try.func67, Try.ntmps67
  go_wp2_with fail
  go_ret
  exact ⟨rfl, rfl⟩
end Go.Proofs.Ytlkmmkphpiamcaa
