/-
  The priority queue: what the stores of a putting leave. Conditions: as the queue's. By an AI agent.
-/
import Derived.Test.YtlkmmkphpiamcaaQc
namespace Go.Proofs.Ytlkmmkphpiamcaa
open Go.RowKit

theorem setCell_comm (w : World) {b1 i1 b2 i2 : Nat} (h : b1 ≠ b2 ∨ i1 ≠ i2) (u v : Value) :
    (w.setCell ⟨b1, i1, none⟩ u).setCell ⟨b2, i2, none⟩ v = (w.setCell ⟨b2, i2, none⟩ v).setCell ⟨b1, i1, none⟩ u := by
  unfold World.setCell
  simp only
  congr 1
  apply Array.ext_getElem?
  intro i
  simp only [Array.getElem?_modify]
  by_cases h1 : b1 = i
  · by_cases h2 : b2 = i
    · subst h1 h2
      have h3 : i1 ≠ i2 := by rcases h with h | h; exact absurd rfl h; exact h
      simp only [if_true, Option.map_map]
      congr 1
      funext o
      cases o <;> simp [Array.setIfInBounds_comm _ _ h3]
    · simp [h1, h2]
  · simp [h1]

/-- A node with what follows it. -/
theorem QL.putHead {B g L : Nat} {w : World} {ns : List Nd} {N : Nd} (h : QL B w g ns L) (hN : NodeAt w N (headV ns)) (hB : B ≤ N.blk ∧ B ≤ N.pk) (hf : ∀ m ∈ ns, m.blk ≠ N.blk) :
    QL B (w.setCell ⟨g, 0, none⟩ (.pointer (some ⟨N.blk, 0, none⟩))) g (N :: ns) L := by
  obtain ⟨h1, h2, ⟨pv, h3⟩, h4⟩ := hN
  have hgN : N.blk ≠ g := h3.unlike h.head (by decide)
  have hgk : N.pk ≠ g := h4.unlike h.head (by decide)
  refine ⟨by simpa [headV] using h.head.put 0 (.pointer (some ⟨N.blk, 0, none⟩)), ⟨⟨h1, h2, ⟨pv, h3.far (p := ⟨g, 0, none⟩) hgN _⟩, h4.far (p := ⟨g, 0, none⟩) hgk _⟩, h.seg.far h.head (by decide) h.notg _⟩, ?_, ?_⟩
  · intro m hm
    rcases List.mem_cons.1 hm with rfl | hm
    · exact hB
    · exact h.lows m hm
  · simp only [List.map_cons, List.nodup_cons]
    refine ⟨fun e => ?_, h.apart⟩
    obtain ⟨m, hm, he⟩ := List.mem_map.1 e
    exact hf m hm he
theorem QL.putMid {B g L : Nat} {w : World} {a r : List Nd} {p N : Nd} (h : QL B w g (a ++ p :: r) L) (hN : NodeAt w N (headV r)) (hB : B ≤ N.blk ∧ B ≤ N.pk) (hf : ∀ m ∈ a ++ p :: r, m.blk ≠ N.blk) :
    QL B (w.setCell ⟨p.blk, 1, none⟩ (.pointer (some ⟨N.blk, 0, none⟩))) g (a ++ p :: N :: r) L := by
  have hd := h.apart
  have hd2 : ((p :: r).map Nd.blk).Nodup := by
    rw [List.map_append] at hd
    exact hd.sublist (List.sublist_append_right _ _)
  simp only [List.map_cons, List.nodup_cons] at hd2
  have hv : headV (a ++ p :: r) = headV (a ++ p :: N :: r) := by cases a <;> rfl
  have hsr : Seg w (N :: r) := ⟨hN, (Seg.at_ h.seg).2⟩
  refine ⟨?_, h.seg.next (r' := N :: r) hsr h.apart (fun m hm e => ?_), fun m hm => ?_, ?_⟩
  · have := h.head.far (p := ⟨p.blk, 1, none⟩) (h.notg p (by simp)).symm (.pointer (some ⟨N.blk, 0, none⟩))
    rwa [hv] at this
  · rcases List.mem_cons.1 hm with rfl | hm
    · exact hf p (by simp) e.symm
    · exact hd2.1 (e ▸ List.mem_map_of_mem hm)
  · rcases List.mem_append.1 hm with hm | hm
    · exact h.lows m (by simp [hm])
    · rcases List.mem_cons.1 hm with rfl | hm
      · exact h.lows m (by simp)
      · rcases List.mem_cons.1 hm with rfl | hm
        · exact hB
        · exact h.lows m (by simp [hm])
  · have hp : ((a ++ p :: N :: r).map Nd.blk).Perm ((N :: (a ++ p :: r)).map Nd.blk) := by
      apply List.Perm.map
      have := List.perm_middle (a := N) (l₁ := a ++ [p]) (l₂ := r)
      simpa using this
    rw [hp.nodup_iff]
    simp only [List.map_cons, List.nodup_cons]
    refine ⟨fun e => ?_, h.apart⟩
    obtain ⟨m, hm, he⟩ := List.mem_map.1 e
    exact hf m hm he

/-- A packet is put into the queue. -/
def PutOk (B g : Nat) (w w' : World) (N : Nd) (ns : List Nd) : Prop := QAt B w' g (insBy Nd.seq N ns) ∧ Touch (QT B g w) w w'
/-- The new node, before it is linked. -/
def NewNd (B : Nat) (w : World) (N : Nd) (ns : List Nd) : Prop :=
  N.seq ≤ 65535 ∧ N.time ≤ 4294967295 ∧ Blk w N.blk 132 #[.pointer (some ⟨N.pk, 0, none⟩), .pointer none, .pointer none, .int .u16 N.seq] ∧ Blk w N.pk 139 (pkCells N.seq N.time) ∧ B ≤ N.blk ∧ B ≤ N.pk ∧ ∀ m ∈ ns, m.blk ≠ N.blk

def phW (w : World) (g L : Nat) (N : Nd) (ns : List Nd) : World :=
  match ns with
  | [] => ((w.setCell ⟨N.blk, 1, none⟩ (.pointer none)).setCell ⟨g, 0, none⟩ (.pointer (some ⟨N.blk, 0, none⟩))).setCell ⟨g, 1, none⟩ (.int .u16 (L : Int))
  | m :: _ => (((w.setCell ⟨N.blk, 1, none⟩ (.pointer (some ⟨m.blk, 0, none⟩))).setCell ⟨m.blk, 2, none⟩ (.pointer (some ⟨N.blk, 0, none⟩))).setCell ⟨g, 0, none⟩ (.pointer (some ⟨N.blk, 0, none⟩))).setCell ⟨g, 1, none⟩ (.int .u16 (L : Int))

theorem ph_done {B g L : Nat} {w : World} {N : Nd} {ns : List Nd} (h : QAt B w g ns) (hN : NewNd B w N ns) (hL : ns.length + 1 = L) (hs : ∀ m, ns.head? = some m → N.seq ≤ m.seq) : PutOk B g w (phW w g L N ns) N ns := by
  subst hL
  obtain ⟨n1, n2, n3, n4, n5, n6, n7⟩ := hN
  have hkN : N.pk ≠ N.blk := n4.unlike n3 (by decide)
  have e : insBy Nd.seq N ns = N :: ns := insBy_at (a := []) (by simp) hs
  have b1 := (Touch.refl (QT B g w) w).setCell (p := ⟨N.blk, 1, none⟩) (fun _ => .inr ⟨n5, _, n3⟩) (headV ns)
  have q1 := h.off (i := 1) n3 n7 (headV ns)
  have N1 : NodeAt (w.setCell ⟨N.blk, 1, none⟩ (headV ns)) N (headV ns) := ⟨n1, n2, ⟨none, by simpa using n3.put 1 (headV ns)⟩, n4.far (p := ⟨N.blk, 1, none⟩) hkN _⟩
  refine ⟨?_, ?_⟩
  · rw [e]
    cases ns with
    | nil => exact (q1.putHead N1 ⟨n5, n6⟩ n7).len _
    | cons m r =>
      obtain ⟨nx2, pv2, _, _, hm, _⟩ := q1.node (n := m) (by simp)
      have q2 := q1.prev (a := []) (some ⟨N.blk, 0, none⟩)
      obtain ⟨h1, h2, ⟨pv, h3⟩, h4⟩ := N1
      have N2 : NodeAt _ N (headV (m :: r)) := ⟨h1, h2, ⟨pv, h3.far (p := ⟨m.blk, 2, none⟩) (n7 m (by simp)).symm (.pointer (some ⟨N.blk, 0, none⟩))⟩, h4.far (p := ⟨m.blk, 2, none⟩) (h4.unlike hm (by decide)) _⟩
      exact (q2.putHead N2 ⟨n5, n6⟩ n7).len _
  · cases ns with
    | nil => exact (b1.setCell (p := ⟨g, 0, none⟩) (fun _ => .inl rfl) _).setCell (p := ⟨g, 1, none⟩) (fun _ => .inl rfl) _
    | cons m r =>
      obtain ⟨_, _, _, _, hm0, _⟩ := h.node (n := m) (by simp)
      exact ((b1.setCell (p := ⟨m.blk, 2, none⟩) (fun _ => .inr ⟨(h.lows m (by simp)).1, _, hm0⟩) _).setCell (p := ⟨g, 0, none⟩) (fun _ => .inl rfl) _).setCell (p := ⟨g, 1, none⟩) (fun _ => .inl rfl) _

def pmW (w : World) (g L : Nat) (p N : Nd) (r : List Nd) : World :=
  match r with
  | [] => (((w.setCell ⟨p.blk, 1, none⟩ (.pointer (some ⟨N.blk, 0, none⟩))).setCell ⟨N.blk, 2, none⟩ (.pointer (some ⟨p.blk, 0, none⟩))).setCell ⟨N.blk, 1, none⟩ (.pointer none)).setCell ⟨g, 1, none⟩ (.int .u16 (L : Int))
  | m :: _ => ((((w.setCell ⟨p.blk, 1, none⟩ (.pointer (some ⟨N.blk, 0, none⟩))).setCell ⟨N.blk, 2, none⟩ (.pointer (some ⟨p.blk, 0, none⟩))).setCell ⟨N.blk, 1, none⟩ (.pointer (some ⟨m.blk, 0, none⟩))).setCell ⟨m.blk, 2, none⟩ (.pointer (some ⟨N.blk, 0, none⟩))).setCell ⟨g, 1, none⟩ (.int .u16 (L : Int))

theorem pm_done {B g L : Nat} {w : World} {N p : Nd} {a r : List Nd} (h : QAt B w g (a ++ p :: r)) (hN : NewNd B w N (a ++ p :: r)) (hL : (a ++ p :: r).length + 1 = L)
    (ha : ∀ m ∈ a ++ [p], m.seq < N.seq) (hs : ∀ m, r.head? = some m → N.seq ≤ m.seq) : PutOk B g w (pmW w g L p N r) N (a ++ p :: r) := by
  subst hL
  obtain ⟨n1, n2, n3, n4, n5, n6, n7⟩ := hN
  have hkN : N.pk ≠ N.blk := n4.unlike n3 (by decide)
  have hpN : p.blk ≠ N.blk := n7 p (by simp)
  have e : insBy Nd.seq N (a ++ p :: r) = a ++ p :: N :: r := by
    have := insBy_at (k := Nd.seq) (a := a ++ [p]) (r := r) (x := N) ha hs
    simpa using this
  have hlen : (a ++ p :: N :: r).length = (a ++ p :: r).length + 1 := by simp; omega
  have hBp := (h.lows p (by simp)).1
  obtain ⟨_, _, _, _, hp0, _⟩ := h.node (n := p) (by simp)
  have b1 := (Touch.refl (QT B g w) w).setCell (p := ⟨p.blk, 1, none⟩) (fun _ => .inr ⟨hBp, _, hp0⟩) (.pointer (some ⟨N.blk, 0, none⟩))
  have b2 := (b1.setCell (p := ⟨N.blk, 2, none⟩) (fun _ => .inr ⟨n5, _, n3⟩) (.pointer (some ⟨p.blk, 0, none⟩))).setCell (p := ⟨N.blk, 1, none⟩) (fun _ => .inr ⟨n5, _, n3⟩) (headV r)
  have q1 := h.off (i := 1) n3 n7 (headV r)
  have N1 : NodeAt (w.setCell ⟨N.blk, 1, none⟩ (headV r)) N (headV r) := ⟨n1, n2, ⟨none, by simpa using n3.put 1 (headV r)⟩, n4.far (p := ⟨N.blk, 1, none⟩) hkN _⟩
  have q2 := q1.putMid N1 ⟨n5, n6⟩ n7
  have e1 : a ++ p :: N :: r = (a ++ [p]) ++ N :: r := by simp
  have q3 := q2
  rw [e1] at q3
  have q4 := q3.prev (some ⟨p.blk, 0, none⟩)
  rw [← e1] at q4
  have hw : ((w.setCell ⟨N.blk, 1, none⟩ (headV r)).setCell ⟨p.blk, 1, none⟩ (.pointer (some ⟨N.blk, 0, none⟩))).setCell ⟨N.blk, 2, none⟩ (.pointer (some ⟨p.blk, 0, none⟩)) =
      ((w.setCell ⟨p.blk, 1, none⟩ (.pointer (some ⟨N.blk, 0, none⟩))).setCell ⟨N.blk, 2, none⟩ (.pointer (some ⟨p.blk, 0, none⟩))).setCell ⟨N.blk, 1, none⟩ (headV r) := by
    rw [setCell_comm w (.inl hpN.symm), setCell_comm _ (b1 := N.blk) (i1 := 1) (b2 := N.blk) (i2 := 2) (.inr (by decide))]
  rw [hw] at q4
  refine ⟨?_, ?_⟩
  · rw [e]
    show QL B _ g _ _
    rw [hlen]
    cases r with
    | nil => exact q4.len _
    | cons m r' =>
      have e2 : a ++ p :: N :: m :: r' = (a ++ [p, N]) ++ m :: r' := by simp
      rw [e2] at q4
      have q5 := q4.prev (some ⟨N.blk, 0, none⟩)
      rw [← e2] at q5
      exact q5.len _
  · cases r with
    | nil => exact b2.setCell (p := ⟨g, 1, none⟩) (fun _ => .inl rfl) _
    | cons m r' =>
      obtain ⟨_, _, _, _, hm0, _⟩ := h.node (n := m) (by simp)
      exact (b2.setCell (p := ⟨m.blk, 2, none⟩) (fun _ => .inr ⟨(h.lows m (by simp)).1, _, hm0⟩) _).setCell (p := ⟨g, 1, none⟩) (fun _ => .inl rfl) _

theorem u16_more (n : Nat) (h : n < 65535) : IntKind.u16.wrap ((n : Int) + 1) = ((n + 1 : Nat) : Int) := by
  rw [IntKind.wrap_u16]
  omega
/-- The new node made: the queue as it was, and the node. -/
theorem new_nd {B g L pk s t : Nat} {w : World} {ns : List Nd} (h : QL B w g ns L) (hB : B ≤ w.heap.size) (hpk : Blk w pk 139 (pkCells s t)) (hpB : B ≤ pk) (hs : s ≤ 65535) (ht : t ≤ 4294967295) :
    QL B (w.alloc (.cells #[.pointer (some ⟨pk, 0, none⟩), .pointer none, .pointer none, .int .u16 s] 132)) g ns L ∧
    NewNd B (w.alloc (.cells #[.pointer (some ⟨pk, 0, none⟩), .pointer none, .pointer none, .int .u16 s] 132)) ⟨w.heap.size, pk, s, t⟩ ns := by
  refine ⟨h.calm ((Touch.refl Nowhere w).alloc _) (fun _ _ _ _ _ h => h), hs, ht, Blk.new _ _ _, hpk.alloc _, hB, hpB, fun m hm e => ?_⟩
  obtain ⟨_, _, _, _, hb, _⟩ := h.node hm
  have hlt := hb.lt
  have e' : m.blk = w.heap.size := e
  omega
end Go.Proofs.Ytlkmmkphpiamcaa
