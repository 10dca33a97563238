/-
  The priority queue: what the stores of a taking leave. Conditions: as the queue's. By an AI agent.
-/
import Derived.Test.YtlkmmkphpiamcaaY
namespace Go.Proofs.Ytlkmmkphpiamcaa
open Go.RowKit

/-- A node is taken out: the queue without it, the packet as it was. -/
def TakeOk (B g : Nat) (w w' : World) (n : Nd) (r : List Nd) : Prop := QAt B w' g r ∧ Touch (QT B g w) w w' ∧ Blk w' n.pk 139 (pkCells n.seq n.time)
/-- A call that takes a packet out of the queue, or none. -/
def TakePost (B g : Nat) (o : Option (Nd × List Nd)) (w : World) (e : Ending) (w' : World) : Prop :=
  match o with
  | none => (∃ t x, e = .returned (.tuple #[.pointer none, .iface t x])) ∧ w' = w
  | some y => e = .returned (.tuple #[.pointer (some ⟨y.1.pk, 0, none⟩), .nilIface]) ∧ TakeOk B g w w' y.1 y.2

theorem u16_less (n : Nat) (h : n < 65535) : IntKind.u16.wrap (((n + 1 : Nat) : Int) - 1) = (n : Int) := by
  rw [IntKind.wrap_u16]
  omega
theorem u16_self (n : Nat) (h : n ≤ 65535) : IntKind.u16.wrap (n : Int) = (n : Int) := by
  rw [IntKind.wrap_u16]
  omega

/-- The stores of a taking of the head. -/
def headW (w : World) (g L : Nat) (n : Nd) (r : List Nd) : World :=
  match r with
  | [] => (((w.setCell ⟨g, 0, none⟩ (.pointer none)).setCell ⟨n.blk, 1, none⟩ (.pointer none)).setCell ⟨n.blk, 0, none⟩ (.pointer none)).setCell ⟨g, 1, none⟩ (.int .u16 (L : Int))
  | m :: _ => ((((w.setCell ⟨g, 0, none⟩ (.pointer (some ⟨m.blk, 0, none⟩))).setCell ⟨m.blk, 2, none⟩ (.pointer none)).setCell ⟨n.blk, 1, none⟩ (.pointer none)).setCell ⟨n.blk, 0, none⟩ (.pointer none)).setCell ⟨g, 1, none⟩ (.int .u16 (L : Int))

theorem head_done {B g L : Nat} {w : World} {n : Nd} {r : List Nd} (h : QAt B w g (n :: r)) (hL : r.length = L) : TakeOk B g w (headW w g L n r) n r := by
  subst hL
  obtain ⟨nx, pv, _, _, hn, hk⟩ := h.node (n := n) (by simp)
  have hgn : n.blk ≠ g := h.notg n (by simp)
  have hkg : n.pk ≠ g := hk.unlike h.head (by decide)
  have hkn : n.pk ≠ n.blk := hk.unlike hn (by decide)
  have hBn := (h.lows n (by simp)).1
  have hd := h.apart
  simp only [List.map_cons, List.nodup_cons] at hd
  have hnr : ∀ k ∈ r, k.blk ≠ n.blk := fun k hk e => hd.1 (e ▸ List.mem_map_of_mem hk)
  have q1 := h.top
  have n1 := hn.far (p := ⟨g, 0, none⟩) hgn (headV r)
  have k1 := hk.far (p := ⟨g, 0, none⟩) hkg (headV r)
  have b1 := (Touch.refl (QT B g w) w).setCell (p := ⟨g, 0, none⟩) (fun _ => .inl rfl) (headV r)
  cases r with
  | nil =>
    have q2 := q1.off (i := 1) n1 hnr (.pointer none)
    have n2 := n1.put 1 (.pointer none)
    have q3 := q2.off (i := 0) n2 hnr (.pointer none)
    exact ⟨q3.len 0, ((b1.setCell (p := ⟨n.blk, 1, none⟩) (fun _ => .inr ⟨hBn, _, hn⟩) _).setCell (p := ⟨n.blk, 0, none⟩) (fun _ => .inr ⟨hBn, _, hn⟩) _).setCell (p := ⟨g, 1, none⟩) (fun _ => .inl rfl) _,
      ((k1.far (p := ⟨n.blk, 1, none⟩) hkn _).far (p := ⟨n.blk, 0, none⟩) hkn _).far (p := ⟨g, 1, none⟩) hkg _⟩
  | cons m r' =>
    obtain ⟨nx2, pv2, _, _, hm, _⟩ := h.node (n := m) (by simp)
    have hkm : n.pk ≠ m.blk := hk.unlike hm (by decide)
    have hnm : n.blk ≠ m.blk := (hnr m (by simp)).symm
    have hBm := (h.lows m (by simp)).1
    have q2 := q1.prev (a := []) none
    have n2 := n1.far (p := ⟨m.blk, 2, none⟩) hnm (.pointer none)
    have q3 := q2.off (i := 1) n2 hnr (.pointer none)
    have n3 := n2.put 1 (.pointer none)
    have q4 := q3.off (i := 0) n3 hnr (.pointer none)
    exact ⟨q4.len _, (((b1.setCell (p := ⟨m.blk, 2, none⟩) (fun _ => .inr ⟨hBm, _, hm⟩) _).setCell (p := ⟨n.blk, 1, none⟩) (fun _ => .inr ⟨hBn, _, hn⟩) _).setCell (p := ⟨n.blk, 0, none⟩) (fun _ => .inr ⟨hBn, _, hn⟩) _).setCell (p := ⟨g, 1, none⟩) (fun _ => .inl rfl) _,
      (((k1.far (p := ⟨m.blk, 2, none⟩) hkm _).far (p := ⟨n.blk, 1, none⟩) hkn _).far (p := ⟨n.blk, 0, none⟩) hkn _).far (p := ⟨g, 1, none⟩) hkg _⟩

/-- The stores of a taking behind a node. -/
def midW (w : World) (g L : Nat) (p n : Nd) (r : List Nd) : World :=
  match r with
  | [] => ((((w.setCell ⟨p.blk, 1, none⟩ (.pointer none)).setCell ⟨n.blk, 1, none⟩ (.pointer none)).setCell ⟨n.blk, 2, none⟩ (.pointer none)).setCell ⟨n.blk, 0, none⟩ (.pointer none)).setCell ⟨g, 1, none⟩ (.int .u16 (L : Int))
  | m :: _ => (((((w.setCell ⟨p.blk, 1, none⟩ (.pointer (some ⟨m.blk, 0, none⟩))).setCell ⟨m.blk, 2, none⟩ (.pointer (some ⟨p.blk, 0, none⟩))).setCell ⟨n.blk, 1, none⟩ (.pointer none)).setCell ⟨n.blk, 2, none⟩ (.pointer none)).setCell ⟨n.blk, 0, none⟩ (.pointer none)).setCell ⟨g, 1, none⟩ (.int .u16 (L : Int))

theorem mid_done {B g L : Nat} {w : World} {a r : List Nd} {p n : Nd} (h : QAt B w g (a ++ p :: n :: r)) (hL : (a ++ p :: r).length = L) : TakeOk B g w (midW w g L p n r) n (a ++ p :: r) := by
  subst hL
  obtain ⟨nx, pv, _, _, hn, hk⟩ := h.node (n := n) (by simp)
  obtain ⟨nxp, pvp, _, _, hp, _⟩ := h.node (n := p) (by simp)
  have hgn : n.blk ≠ g := h.notg n (by simp)
  have hkg : n.pk ≠ g := hk.unlike h.head (by decide)
  have hkn : n.pk ≠ n.blk := hk.unlike hn (by decide)
  have hkp : n.pk ≠ p.blk := hk.unlike hp (by decide)
  have hBn := (h.lows n (by simp)).1
  have hBp := (h.lows p (by simp)).1
  have hd := h.apart
  simp only [List.map_append, List.map_cons] at hd
  have hd1 := List.nodup_append.1 hd
  have hd2 := hd1.2.1
  simp only [List.nodup_cons, List.mem_cons] at hd2
  have hnp : n.blk ≠ p.blk := fun e => hd2.1 (.inl e.symm)
  have hnr : ∀ k ∈ a ++ p :: r, k.blk ≠ n.blk := by
    intro k hk e
    rcases List.mem_append.1 hk with hk | hk
    · exact hd1.2.2 _ (List.mem_map_of_mem hk) n.blk (by simp) e
    · rcases List.mem_cons.1 hk with rfl | hk
      · exact hnp e.symm
      · exact hd2.2.1 (e ▸ List.mem_map_of_mem hk)
  have q1 := h.skip
  have n1 := hn.far (p := ⟨p.blk, 1, none⟩) hnp (headV r)
  have k1 := hk.far (p := ⟨p.blk, 1, none⟩) hkp (headV r)
  have b1 := (Touch.refl (QT B g w) w).setCell (p := ⟨p.blk, 1, none⟩) (fun _ => .inr ⟨hBp, _, hp⟩) (headV r)
  cases r with
  | nil =>
    have q2 := q1.off (i := 1) n1 hnr (.pointer none)
    have n2 := n1.put 1 (.pointer none)
    have q3 := q2.off (i := 2) n2 hnr (.pointer none)
    have n3 := n2.put 2 (.pointer none)
    have q4 := q3.off (i := 0) n3 hnr (.pointer none)
    exact ⟨q4.len _, (((b1.setCell (p := ⟨n.blk, 1, none⟩) (fun _ => .inr ⟨hBn, _, hn⟩) _).setCell (p := ⟨n.blk, 2, none⟩) (fun _ => .inr ⟨hBn, _, hn⟩) _).setCell (p := ⟨n.blk, 0, none⟩) (fun _ => .inr ⟨hBn, _, hn⟩) _).setCell (p := ⟨g, 1, none⟩) (fun _ => .inl rfl) _,
      (((k1.far (p := ⟨n.blk, 1, none⟩) hkn _).far (p := ⟨n.blk, 2, none⟩) hkn _).far (p := ⟨n.blk, 0, none⟩) hkn _).far (p := ⟨g, 1, none⟩) hkg _⟩
  | cons m r' =>
    obtain ⟨nx2, pv2, _, _, hm, _⟩ := h.node (n := m) (by simp)
    have hkm : n.pk ≠ m.blk := hk.unlike hm (by decide)
    have hnm : n.blk ≠ m.blk := (hnr m (by simp)).symm
    have hBm := (h.lows m (by simp)).1
    have e1 : a ++ p :: m :: r' = (a ++ [p]) ++ m :: r' := by simp
    have q1' := q1
    rw [e1] at q1'
    have q2 := q1'.prev (some ⟨p.blk, 0, none⟩)
    rw [← e1] at q2
    have n2 := n1.far (p := ⟨m.blk, 2, none⟩) hnm (.pointer (some ⟨p.blk, 0, none⟩))
    have q3 := q2.off (i := 1) n2 hnr (.pointer none)
    have n3 := n2.put 1 (.pointer none)
    have q4 := q3.off (i := 2) n3 hnr (.pointer none)
    have n4 := n3.put 2 (.pointer none)
    have q5 := q4.off (i := 0) n4 hnr (.pointer none)
    exact ⟨q5.len _, ((((b1.setCell (p := ⟨m.blk, 2, none⟩) (fun _ => .inr ⟨hBm, _, hm⟩) _).setCell (p := ⟨n.blk, 1, none⟩) (fun _ => .inr ⟨hBn, _, hn⟩) _).setCell (p := ⟨n.blk, 2, none⟩) (fun _ => .inr ⟨hBn, _, hn⟩) _).setCell (p := ⟨n.blk, 0, none⟩) (fun _ => .inr ⟨hBn, _, hn⟩) _).setCell (p := ⟨g, 1, none⟩) (fun _ => .inl rfl) _,
      ((((k1.far (p := ⟨m.blk, 2, none⟩) hkm _).far (p := ⟨n.blk, 1, none⟩) hkn _).far (p := ⟨n.blk, 2, none⟩) hkn _).far (p := ⟨n.blk, 0, none⟩) hkn _).far (p := ⟨g, 1, none⟩) hkg _⟩

/-- What the walk must know of a node. -/
structure NdF (w : World) (n : Nd) (nx : Value) : Prop where
  s : n.seq ≤ 65535
  t : n.time ≤ 4294967295
  c0 : w.cell? ⟨n.blk, 0, none⟩ = some (.pointer (some ⟨n.pk, 0, none⟩))
  c1 : w.cell? ⟨n.blk, 1, none⟩ = some nx
  c2 : ∃ pv, w.cell? ⟨n.blk, 2, none⟩ = some pv
  c3 : w.cell? ⟨n.blk, 3, none⟩ = some (.int .u16 n.seq)
  f : ∀ i, w.frozen? ⟨n.blk, i, none⟩ = false
  k5 : w.cell? ⟨n.pk, 5, none⟩ = some (.int .u16 n.seq)
  k6 : w.cell? ⟨n.pk, 6, none⟩ = some (.int .u32 n.time)
theorem Seg.f {w : World} {a r : List Nd} {n : Nd} (h : Seg w (a ++ n :: r)) : NdF w n (headV r) := by
  obtain ⟨⟨h1, h2, ⟨pv, hb⟩, hk⟩, _⟩ := Seg.at_ h
  exact ⟨h1, h2, hb.cell 0, hb.cell 1, ⟨_, hb.cell 2⟩, hb.cell 3, hb.free, hk.cell 5, hk.cell 6⟩
/-- What the walk must know of the queue's head. -/
theorem QL.hd {B g L : Nat} {w : World} {ns : List Nd} (h : QL B w g ns L) : w.cell? ⟨g, 0, none⟩ = some (headV ns) ∧ w.cell? ⟨g, 1, none⟩ = some (.int .u16 (L : Int)) ∧ ∀ i, w.frozen? ⟨g, i, none⟩ = false :=
  ⟨h.head.cell 0, h.head.cell 1, h.head.free⟩
end Go.Proofs.Ytlkmmkphpiamcaa
