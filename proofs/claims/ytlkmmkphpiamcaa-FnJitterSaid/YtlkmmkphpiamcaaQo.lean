/-
  FnQueue: plain words and the first two loops. Conditions: the slice reads as calls. By an AI agent.
-/
import Derived.Test.YtlkmmkphpiamcaaQm
import Derived.Test.YtlkmmkphpiamcaaQj
namespace Go.Proofs.Ytlkmmkphpiamcaa
open Go.RowKit

/-- A call as it came: any number for what it does. -/
structure Raw where
  what : Int
  seq : Nat
  time : Nat
def stpOf (r : Raw) : Stp := ⟨r.what.toNat, r.seq, r.time⟩
def RawsAt (w : World) (B : Nat) (A : Option Addr) (n : Nat) (ts : List Raw) : Prop :=
  ts.length = n ∧ (0 < n → ∃ ga off, A = some ⟨ga, off, none⟩ ∧ ga < B ∧ ∀ j s, ts[j]? = some s → w.cell? ⟨ga, off + j * 3, none⟩ = some (.int .i64 s.what) ∧ w.cell? ⟨ga, off + j * 3 + 1, none⟩ = some (.int .u16 s.seq) ∧ w.cell? ⟨ga, off + j * 3 + 2, none⟩ = some (.int .u32 s.time))
theorem RawsAt.steps {w : World} {B n : Nat} {A : Option Addr} {ts : List Raw} (h : RawsAt w B A n ts) (hp : ∀ t ∈ ts, 0 ≤ t.what) : StepsAt w B A n (ts.map stpOf) := by
  refine ⟨by simp [h.1], fun hn => ?_⟩
  obtain ⟨ga, off, e, hb, hc⟩ := h.2 hn
  refine ⟨ga, off, e, hb, fun j s hs => ?_⟩
  rw [List.getElem?_map] at hs
  cases ht : ts[j]? with
  | none => rw [ht] at hs; cases hs
  | some t =>
    rw [ht] at hs
    simp at hs
    subst hs
    obtain ⟨h1, h2, h3⟩ := hc j t ht
    refine ⟨?_, h2, h3⟩
    rw [h1]
    have := hp t (List.mem_of_getElem? ht)
    simp [stpOf]
    omega
theorem RawsAt.keep {w w' : World} {B n : Nat} {A : Option Addr} {ts : List Raw} (h : RawsAt w B A n ts) (hk : ∀ p : Addr, p.block < B → w'.cell? p = w.cell? p) : RawsAt w' B A n ts := by
  refine ⟨h.1, fun hn => ?_⟩
  obtain ⟨ga, off, e, hb, hc⟩ := h.2 hn
  refine ⟨ga, off, e, hb, fun j s hs => ?_⟩
  obtain ⟨h1, h2, h3⟩ := hc j s hs
  exact ⟨(hk _ hb).trans h1, (hk _ hb).trans h2, (hk _ hb).trans h3⟩
def rawPuts (ts : List Raw) : List Nat := (ts.filter fun t => decide (t.what = 0)).map Raw.seq
theorem rawPuts_snoc (ts : List Raw) (t : Raw) : rawPuts (ts ++ [t]) = rawPuts ts ++ if t.what = 0 then [t.seq] else [] := by
  by_cases h : t.what = 0 <;> simp [rawPuts, h]
theorem rawPuts_len (ts : List Raw) : (rawPuts ts).length ≤ ts.length := by
  simp only [rawPuts, List.length_map]
  exact List.length_filter_le _ _
theorem rawPuts_eq {ts : List Raw} (h : ∀ t ∈ ts, 0 ≤ t.what) : rawPuts ts = qPuts (ts.map stpOf) := by
  induction ts with
  | nil => rfl
  | cons t ts ih =>
    have h0 := h t (by simp)
    have := ih (fun x hx => h x (by simp [hx]))
    unfold rawPuts qPuts at this ⊢
    by_cases hz : t.what = 0
    · have h1 : (stpOf t).what = 0 := by simp [stpOf, hz]
      simp [hz, h1, this]
      rfl
    · have h1 : ¬ (stpOf t).what = 0 := by simp [stpOf]; omega
      simp [hz, h1, this]

def U16n (l : List Nat) : List Value := l.map fun q : Nat => Value.int .u16 (q : Int)
def I64n (l : List Nat) : List Value := l.map fun q : Nat => Value.int .i64 (q : Int)

/-- The first loop: what has been collected. -/
def L1 (ts : List Raw) (k : Nat) (v : Value) (w0 wr : World) : Prop :=
  wr.ownsRow w0.heap.size 33 1 v (rawPuts (ts.take k)).length (U16n (rawPuts (ts.take k))) ∧ Below w0.heap.size w0 wr ∧ ∀ t ∈ ts.take k, 0 ≤ t.what ∧ t.what ≤ 5
theorem L1.skip {ts : List Raw} {k : Nat} {v : Value} {w0 wr : World} {t : Raw} {o : Obj} (h : L1 ts k v w0 wr) (ht : ts[k]? = some t) (h0 : t.what ≠ 0) (h1 : 0 ≤ t.what ∧ t.what ≤ 5) : L1 ts (k + 1) v w0 (wr.alloc o) := by
  obtain ⟨a, b, c⟩ := h
  have e : rawPuts (ts.take (k + 1)) = rawPuts (ts.take k) := by rw [List.take_add_one, ht, Option.toList_some, rawPuts_snoc, if_neg h0, List.append_nil]
  refine ⟨by rw [e]; exact a.alloc o, b.alloc b.size o, fun x hx => ?_⟩
  rw [List.take_add_one, ht, Option.toList_some] at hx
  rcases List.mem_append.1 hx with hx | hx
  · exact c x hx
  · simp at hx
    subst hx
    exact h1
theorem L1.push {ts : List Raw} {k gg cap : Nat} {v : Value} {w0 wr w1 : World} {t : Raw} {o o' : Obj} (h : L1 ts k v w0 wr) (ht : ts[k]? = some t) (h0 : t.what = 0)
    (hown : w1.ownsRow w0.heap.size 33 1 (.slice (some ⟨gg, 0, none⟩) ((rawPuts (ts.take k)).length + 1) cap) ((rawPuts (ts.take k)).length + 1) (U16n (rawPuts (ts.take k)) ++ [.int .u16 t.seq]))
    (hgrow : ((wr.alloc o).alloc o').grownBy w1 v.ownBlock) : L1 ts (k + 1) (.slice (some ⟨gg, 0, none⟩) ((rawPuts (ts.take k)).length + 1) cap) w0 w1 := by
  obtain ⟨a, b, c⟩ := h
  have e : rawPuts (ts.take (k + 1)) = rawPuts (ts.take k) ++ [t.seq] := by rw [List.take_add_one, ht, Option.toList_some, rawPuts_snoc, if_pos h0]
  refine ⟨?_, ?_, fun x hx => ?_⟩
  · rw [e]
    simpa [U16n] using hown
  · exact ((b.alloc b.size o).alloc (by simp; have := b.size; omega) o').grown hgrow (by simp; have := b.size; omega) fun g hg => (a.lt g hg).1
  · rw [List.take_add_one, ht, Option.toList_some] at hx
    rcases List.mem_append.1 hx with hx | hx
    · exact c x hx
    · simp at hx
      subst hx
      omega
def L2 (l : List Nat) (k : Nat) (v : Value) (w0 wr : World) : Prop := wr.ownsRow w0.heap.size 2 1 v k (I64n (l.take k)) ∧ Below w0.heap.size w0 wr
theorem L2.push {l : List Nat} {k gg cap q : Nat} {v : Value} {w0 wr w1 : World} {o : Obj} (h : L2 l k v w0 wr) (hq : l[k]? = some q)
    (hown : w1.ownsRow w0.heap.size 2 1 (.slice (some ⟨gg, 0, none⟩) (k + 1) cap) (k + 1) (I64n (l.take k) ++ [.int .i64 q])) (hgrow : (wr.alloc o).grownBy w1 v.ownBlock) : L2 l (k + 1) (.slice (some ⟨gg, 0, none⟩) (k + 1) cap) w0 w1 := by
  obtain ⟨a, b⟩ := h
  refine ⟨?_, (b.alloc b.size o).grown hgrow (by simp; have := b.size; omega) fun g hg => (a.lt g hg).1⟩
  rw [List.take_add_one, hq, Option.toList_some]
  simpa [I64n] using hown

/-- The place of a number that is put in. -/
theorem puts_at {ss : List Stp} {k : Nat} {s : Stp} (hs : ss[k]? = some s) (h0 : s.what = 0) : (qPuts ss)[(qPuts (ss.take k)).length]? = some s.seq := by
  have hk := (List.getElem?_eq_some_iff.1 hs).1
  have e : ss = ss.take k ++ [s] ++ ss.drop (k + 1) := by
    have h1 : ss[k] = s := (List.getElem?_eq_some_iff.1 hs).2
    rw [← h1, List.append_assoc, List.singleton_append, ← List.drop_eq_getElem_cons hk, List.take_append_drop]
  have e2 : qPuts ss = qPuts (ss.take k) ++ [s.seq] ++ qPuts (ss.drop (k + 1)) := by
    have h1 : ∀ a b, qPuts (a ++ b) = qPuts a ++ qPuts b := fun a b => by simp [qPuts]
    conv => lhs; rw [e]
    rw [h1, h1]
    congr 2
    simp [qPuts, h0]
  rw [e2]
  simp
theorem puts_take (ss : List Stp) (k : Nat) : ∃ r, qPuts ss = qPuts (ss.take k) ++ r := by
  refine ⟨qPuts (ss.drop k), ?_⟩
  have h1 : ∀ a b, qPuts (a ++ b) = qPuts a ++ qPuts b := fun a b => by simp [qPuts]
  rw [← h1, List.take_append_drop]
theorem distinct_nodup {l : List Nat} (h : Distinct (l.map fun q : Nat => (q : Int))) : l.Nodup := by
  rw [List.nodup_iff_pairwise_ne, List.pairwise_iff_getElem]
  intro i j hi hj hij e
  have h1 := h j (l[j] : Int) (by simp [hj])
  apply h1
  rw [← e, ← List.map_take]
  exact List.mem_map.2 ⟨l[i], List.mem_take_iff_getElem.2 ⟨i, by omega, rfl⟩, rfl⟩
/-- What lies in the queue at a place: in order, small, and not what is put in now. -/
theorem st_facts {ss : List Stp} (hd : (qPuts ss).Nodup) (hs : ∀ s ∈ ss, s.seq ≤ 65535) (k : Nat) : Up It.n (qSt (ss.take k)) ∧ (∀ y ∈ qSt (ss.take k), y.n ≤ 65535) ∧ (∀ s, ss[k]? = some s → s.what = 0 → ∀ y ∈ qSt (ss.take k), y.n ≠ s.seq) := by
  obtain ⟨r, hr⟩ := puts_take ss k
  have hd1 : (qPuts (ss.take k)).Nodup := by rw [hr] at hd; exact (List.nodup_append.1 hd).1
  obtain ⟨u1, u2⟩ := qSt_up _ (ss.take k) rfl hd1
  refine ⟨u1, fun y hy => ?_, fun s hk h0 y hy e => ?_⟩
  · have := u2 y hy
    simp only [qPuts, List.mem_map, List.mem_filter] at this
    obtain ⟨s, ⟨h1, _⟩, h2⟩ := this
    rw [← h2]
    exact hs s (List.mem_of_mem_take h1)
  · have h1 := u2 y hy
    obtain ⟨r2, hr2⟩ := puts_take ss (k + 1)
    rw [List.take_add_one, hk, Option.toList_some, qPuts_snoc, if_pos h0] at hr2
    rw [hr2] at hd
    have := (List.nodup_append.1 (List.nodup_append.1 hd).1).2.2 y.n h1 s.seq (by simp)
    exact this e
end Go.Proofs.Ytlkmmkphpiamcaa
