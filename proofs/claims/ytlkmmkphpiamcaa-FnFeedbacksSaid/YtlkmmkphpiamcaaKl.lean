/-
  A chunk of feedback: emptied (reset), put into a report (encode). Condition: the chunk lies in its feedback's block. By an AI agent.
-/
import Derived.Test.YtlkmmkphpiamcaaKk
namespace Go.Proofs.Ytlkmmkphpiamcaa
open Go.RowKit

/-- The world behind reset. -/
def emptied (k : Nat) (w : World) : World := (((w.alloc (.cells #[] 33)).setCell ⟨k, 9, none⟩ (.slice (some ⟨w.heap.size, 0, none⟩) 0 0)).setCell ⟨k, 7, none⟩ (.bool false)).setCell ⟨k, 8, none⟩ (.bool false)
theorem reset_ch (k : Nat) (f : FB) (w : World) (hB : Blk w k 202 f.cells) :
    CallsD Try.prog 112 #[.pointer (some ⟨k, 7, none⟩)] .returning w fun e u' w' => u' = .returning ∧ (e = .returned (.tuple #[]) ∧ w' = emptied k w) := by
  have hB1 := hB.alloc (.cells #[] 33)
  have c7 := hB1.cell 7
  have c8 := hB1.cell 8
  have c9 := hB1.cell 9
  have f7 := hB1.free 7
  have f8 := hB1.free 8
  have f9 := hB1.free 9
  simp only [FB.cells] at c7 c8 c9
  have d7 := hB.cell 7
  have d8 := hB.cell 8
  have d9 := hB.cell 9
  simp [FB.cells] at d7 d8 d9
  clear hB hB1
  go_enter_d Try.func112, Try.ntmps112
  go_wp2_with fail
  go_end0
  exact ⟨rfl, rfl⟩
theorem emptied_blk {k : Nat} {f : FB} {w : World} (hB : Blk w k 202 f.cells) : Blk (emptied k w) k 202 { f with v := .slice (some ⟨w.heap.size, 0, none⟩) 0 0, hl := false, hd := false }.cells := by
  have h := (((hB.alloc (.cells #[] 33)).put 9 (.slice (some ⟨w.heap.size, 0, none⟩) 0 0)).put 7 (.bool false)).put 8 (.bool false)
  simpa [FB.cells, emptied] using h
theorem emptied_touch (k : Nat) (w : World) : Touch (· = k) w (emptied k w) :=
  ((((Touch.refl (· = k) w).alloc _).setCell (p := ⟨k, 9, none⟩) (fun _ => rfl) _).setCell (p := ⟨k, 7, none⟩) (fun _ => rfl) _).setCell (p := ⟨k, 8, none⟩) (fun _ => rfl) _
theorem emptied_own {k : Nat} {w : World} (hk : k < w.heap.size) {base : Nat} (hb : base ≤ w.heap.size) : OwnsAt (emptied k w) base 33 1 (.slice (some ⟨w.heap.size, 0, none⟩) 0 0) 0 (us []) := by
  have hn := Blk.new w 33 #[]
  have hne : w.heap.size ≠ k := by omega
  have h := ((hn.far (p := ⟨k, 9, none⟩) hne (.slice (some ⟨w.heap.size, 0, none⟩) 0 0)).far (p := ⟨k, 7, none⟩) hne (.bool false)).far (p := ⟨k, 8, none⟩) hne (.bool false)
  exact OwnsAt.block h hb rfl (by simp [maxLen])
end Go.Proofs.Ytlkmmkphpiamcaa
