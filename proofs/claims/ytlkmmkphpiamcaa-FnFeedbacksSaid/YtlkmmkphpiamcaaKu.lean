/-
  Feedback: one that tells of arrivals. No condition. By an AI agent.
-/
import Derived.Test.YtlkmmkphpiamcaaKt
import Derived.Test.YtlkmmkphpiamcaaKs
import Derived.Test.YtlkmmkphpiamcaaKj
namespace Go.Proofs.Ytlkmmkphpiamcaa
open Go.RowKit

/-- A time of an arrival. -/
def goodT (t : Int) : Prop := 0 ≤ t ∧ t % 250 = 0 ∧ t < 1073741824000
/-- Feedback in block k that tells st, from the number s on; its report lies just before it. -/
structure FbOk (w : World) (k : Nat) (f : FB) (s : Nat) (st : St) (sd md c ref : Int) (n : Nat) : Prop where
  at_ : FbAt w k k f st.S st.D n
  rt : f.rt + 1 = k
  rp : Blk w f.rt 169 (rp0 sd md c).cells
  base : f.base = s % 65536
  ref_ : f.ref = ref
  refb : 0 ≤ ref ∧ ref < 16777216
  last : f.last = st.t
  time : goodT st.t
  next : f.next = st.q % 65536
  cnt : f.cnt = st.S.length
  len : 0 ≤ f.len ∧ f.len ≤ 2 * (st.S.length : Int)
  q : st.S.length + s = st.q
  D : st.D.length ≤ st.S.length

theorem FbOk.recv {w w' : World} {k s n n' x : Nat} {f f' : FB} {st : St} {sd md c ref : Int} {F : Nat → Int} (h : FbOk w k f s st sd md c ref n) (hx : st.q ≤ x) (hF : goodT (F x))
    (hr : Recv k k f st.S st.D (x - st.q) st.q (F x) (F x - st.t) w w' f' n') : FbOk w' k f' s (nextSt F x st) sd md c ref n' := by
  have hq := h.q
  have hD := h.D
  have hl := h.len
  have hrl := hr.len
  have hrc := hr.cnt
  have hc := h.cnt
  refine ⟨hr.at_, by rw [hr.kept.rt]; exact h.rt, ?_, hr.kept.base.trans h.base, hr.kept.ref.trans h.ref_, h.refb, hr.last, hF, ?_, ?_, ?_, nextSt_len F x s st hq hx, ?_⟩
  · rw [hr.kept.rt]
    exact h.rp.touch hr.touch (by have := h.rt; omega)
  · rw [hr.next]
    simp only [nextSt]
    congr 1
    omega
  · simp only [nextSt, List.length_append, List.length_replicate, List.length_singleton]
    omega
  · simp only [nextSt, List.length_append, List.length_replicate, List.length_singleton]
    omega
  · simp only [nextSt, List.length_append, List.length_replicate, List.length_singleton]
    omega
/-- addReceived on it. -/
theorem FbOk.add {w : World} {k s n x : Nat} {f : FB} {st : St} {sd md c ref : Int} {F : Nat → Int} (h : FbOk w k f s st sd md c ref n) (hx : st.q ≤ x) (hxs : x < s + 256) (hF : goodT (F x)) :
    Calls Try.prog 103 #[.pointer (some ⟨k, 0, none⟩), .int .u16 ((x % 65536 : Nat) : Int), .int .i64 (F x)] w fun v w' =>
      (fitsD (F x - st.t) ∧ v = .returned (.bool true) ∧ ∃ f' n', FbOk w' k f' s (nextSt F x st) sd md c ref n' ∧ Touch (fun b => k ≤ b) w w') ∨ (¬ fitsD (F x - st.t) ∧ v = .returned (.bool false) ∧ w' = w) := by
  obtain ⟨t1, t2, t3⟩ := h.time
  have hF0 := hF
  obtain ⟨t4, t5, t6⟩ := hF
  have hq := h.q
  have hD := h.D
  have he : F x - st.t = 250 * ((F x - st.t) / 250) := by omega
  by_cases hf : fitsD (F x - st.t)
  · have hf' := hf
    unfold fitsD at hf'
    have hxx : st.q + (x - st.q) = x := by omega
    have hc := addRecv_yes k k n st.q (x - st.q) f st.S st.D (F x) (F x - st.t) ((F x - st.t) / 250) w h.at_ (by rw [h.last]) he (by omega) (by rw [h.last]; omega) h.next (by omega) (by omega) h.cnt h.len (by omega)
    rw [hxx] at hc
    refine hc.mono ?_
    rintro v w' ⟨rfl, f', n', hr⟩
    exact .inl ⟨hf, rfl, f', n', h.recv hx hF0 hr, hr.touch⟩
  · have hf' := hf
    unfold fitsD at hf'
    refine (addRecv_no k k n _ f st.S st.D (F x) (F x - st.t) ((F x - st.t) / 250) w h.at_ (by rw [h.last]) he (by omega) (by omega)).mono ?_
    rintro v w' ⟨rfl, rfl⟩
    exact .inr ⟨hf, rfl, rfl⟩
/-- The first one always fits. -/
theorem fits_first {t : Int} (h : goodT t) : fitsD (t - t / 64000 * 64000) := by
  unfold fitsD
  unfold goodT at h
  omega
theorem FbOk.touch {w w' : World} {k s n : Nat} {f : FB} {st : St} {sd md c ref : Int} {Z : Nat → Prop} (h : FbOk w k f s st sd md c ref n) (ht : Touch Z w w') (hZ : ∀ q t cs, Blk w q t cs → Z q → t = 154 ∨ t = 2) : FbOk w' k f s st sd md c ref n :=
  { h with
    at_ := h.at_.away ht (fun hz => by rcases hZ _ _ _ h.at_.blk hz with h | h <;> exact absurd h (by decide)) fun q t cs hq hz => by rcases hZ q t cs hq hz with rfl | rfl <;> decide
    rp := h.rp.touch ht fun hz => by rcases hZ _ _ _ h.rp hz with h | h <;> exact absurd h (by decide) }
theorem FbOk.drewN {w : World} {k s n : Nat} {f : FB} {st : St} {sd md c ref : Int} (h : FbOk w k f s st sd md c ref n) (m : Nat) : FbOk (w.drewN m) k f s st sd md c ref n := h.touch ((Touch.refl Nowhere w).drewN m) fun _ _ _ _ h => h.elim

theorem put8C (s : Value) (b e : Nat) (i : Bool) (L : Nat) (p : Option Addr) (sd md : Int) (cnt cnt' held : Nat) :
    (recC s b e (restC i L p sd md cnt held)).setIfInBounds 8 (.int .u8 (cnt' : Int)) = recC s b e (restC i L p sd md cnt' held) := by simp [recC, restC]
/-- The recorder's blocks are untouched. -/
theorem RecAt.touch {w w' : World} {r g C b e : Nat} {F : Nat → Int} {p s L : Nat} {sd md : Int} {cnt held : Nat} {Z : Nat → Prop} (h : RecAt w r g C b e F p s L sd md cnt held) (ht : Touch Z w w') (hr : ¬ Z r) (hg : ¬ Z g) (hp : ¬ Z p) : RecAt w' r g C b e F p s L sd md cnt held :=
  ⟨h.mp.touch ht hr hg, h.box.touch ht hp, h.ne⟩

/-- What maybeBuildFeedbackPacket gives: nothing, or feedback. -/
inductive Built (w w' : World) (r g C b e : Nat) (F : Nat → Int) (p s L : Nat) (sd md : Int) (cnt held : Nat) (v : Ending) : Prop
  | none (hn : ∀ i, s ≤ i → i < e → F i < 0) (hv : v = .returned (.pointer none)) (hr : RecAt w' r g C b e F p s L sd md cnt held) (ht : Touch (fun q => q = r ∨ q = p ∨ w.heap.size ≤ q) w w')
  | some (k : Nat) (f : FB) (st : St) (n x : Nat) (hs : s ≤ x) (hx : x < e) (h0 : 0 ≤ F x) (hn : ∀ i, s ≤ i → i < x → F i < 0) (hv : v = .returned (.pointer (some ⟨k, 0, none⟩))) (hk : w.heap.size ≤ f.rt)
      (ho : FbOk w' k f s st sd md (cnt : Int) (F x / 64000) n) (he : Ends F s e (st00 s (F x)) st) (hq : s < st.q ∧ st.q ≤ e) (hr : RecAt w' r g C b e F p st.q L sd md ((cnt + 1) % 256) held) (ht : Touch (fun q => q = r ∨ q = p ∨ w.heap.size ≤ q) w w')
end Go.Proofs.Ytlkmmkphpiamcaa
