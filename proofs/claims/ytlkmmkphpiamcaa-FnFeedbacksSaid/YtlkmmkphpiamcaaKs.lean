/-
  Feedback: new feedback, its base. Condition: the time is not below 0. By an AI agent.
-/
import Derived.Test.YtlkmmkphpiamcaaKo
namespace Go.Proofs.Ytlkmmkphpiamcaa
open Go.RowKit

/-- The report: its head, senders, base, count, reference time, number, chunks, times. -/
structure RP where
  pad : Bool
  hc : Int
  ht : Int
  hn : Int
  sd : Int
  md : Int
  base : Int
  cnt : Int
  ref : Int
  fb : Int
  chs : Value
  dls : Value
def RP.cells (r : RP) : Array Value :=
  #[.bool r.pad, .int .u8 r.hc, .int .u8 r.ht, .int .u16 r.hn, .int .u32 r.sd, .int .u32 r.md, .int .u16 r.base, .int .u16 r.cnt, .int .u32 r.ref, .int .u8 r.fb, r.chs, r.dls]
def rp0 (sd md fb : Int) : RP := ⟨false, 0, 0, 0, sd, md, 0, 0, 0, fb, .slice none 0 0, .slice none 0 0⟩
def fb0 (rt : Nat) : FB := ⟨rt, 0, 0, 0, 0, 0, 0, false, false, .slice none 0 0, .slice none 0 0, .slice none 0 0⟩

set_option maxRecDepth 100000 in
theorem newFb_any (sd md fb : Int) (w : World) :
    Calls Try.prog 101 #[.int .u32 sd, .int .u32 md, .int .u8 fb] w fun v w' => v = .returned (.pointer (some ⟨w.heap.size + 1, 0, none⟩)) ∧ w' = (w.alloc (.cells (rp0 sd md fb).cells 169)).alloc (.cells (fb0 w.heap.size).cells 202) := by
  go_enter Try.func101, Try.ntmps101
  go_wp2_with fail
  go_ret
  exact ⟨by simp, rfl⟩
theorem newFb_at (w : World) (cs : Array Value) : FbAt ((w.alloc (.cells cs 169)).alloc (.cells (fb0 w.heap.size).cells 202)) (w.heap.size + 1) (w.heap.size + 1) (fb0 w.heap.size) [] [] 0 := by
  refine ⟨Nat.le_refl _, ?_, [], [], [], [], ⟨OwnsAt.nil _ _ _ _, OwnsAt.nil _ _ _ _, trivial, OwnsAt.nil _ _ _ _⟩, rfl, rfl, rfl, by simp, fun _ d h => nomatch h⟩
  have h := Blk.new (w.alloc (.cells cs 169)) 202 (fb0 w.heap.size).cells
  simpa using h

set_option maxRecDepth 100000 in
theorem setBase_any (base k n : Nat) (f : FB) (S : List Nat) (D : List Int) (b : Nat) (t : Int) (w : World) (hF : FbAt w base k f S D n) (ht : 0 ≤ t ∧ t < 1073741824000) :
    Calls Try.prog 102 #[.pointer (some ⟨k, 0, none⟩), .int .u16 (b : Int), .int .i64 t] w fun v w' => v = .returned (.tuple #[]) ∧ FbAt w' base k { f with base := b, next := b, ref := t / 64000, last := t / 64000 * 64000 } S D n ∧ Touch (· = k) w w' := by
  have c1 := hF.blk.cell 1
  have c2 := hF.blk.cell 2
  have c3 := hF.blk.cell 3
  have c4 := hF.blk.cell 4
  have f1 := hF.blk.free 1
  have f2 := hF.blk.free 2
  have f3 := hF.blk.free 3
  have f4 := hF.blk.free 4
  simp [FB.cells] at c1 c2 c3 c4
  obtain ⟨q, hq⟩ : ∃ q, t / 64000 = q := ⟨_, rfl⟩
  have hq0 : 0 ≤ q ∧ q < 16777216 := by omega
  obtain ⟨hq0, hq1⟩ := hq0
  have htq : Int.tdiv t 64000 = q := by rw [Int.tdiv_eq_ediv_of_nonneg ht.1, hq]
  rw [hq]
  have h1 := hF.set (f' := { f with base := b }) 1 (.int .u16 (b : Int)) (by simp [FB.cells]) rfl rfl rfl rfl
  have h2 := h1.set (f' := { f with base := b, next := b }) 4 (.int .u16 (b : Int)) (by simp [FB.cells]) rfl rfl rfl rfl
  have h3 := h2.set (f' := { f with base := b, next := b, ref := q }) 2 (.int .i64 q) (by simp [FB.cells]) rfl rfl rfl rfl
  have h4 := h3.set (f' := { f with base := b, next := b, ref := q, last := q * 64000 }) 3 (.int .i64 (q * 64000)) (by simp [FB.cells]) rfl rfl rfl rfl
  have ht4 := ((((Touch.refl (· = k) w).setCell (p := ⟨k, 1, none⟩) (fun _ => rfl) (.int .u16 (b : Int))).setCell (p := ⟨k, 4, none⟩) (fun _ => rfl) (.int .u16 (b : Int))).setCell (p := ⟨k, 2, none⟩) (fun _ => rfl) (.int .i64 q)).setCell (p := ⟨k, 3, none⟩) (fun _ => rfl) (.int .i64 (q * 64000))
  have HF := Lib.hid (And.intro h4 ht4)
  clear hF h1 h2 h3 h4 ht4 hq ht
  go_enter Try.func102, Try.ntmps102
  go_wp2_with fail
  go_end0
  exact ⟨rfl, HF.out⟩
end Go.Proofs.Ytlkmmkphpiamcaa
