/-
  The recorder: NewRecorder. No condition. By an AI agent.
-/
import Derived.Test.YtlkmmkphpiamcaaKj
namespace Go.Proofs.Ytlkmmkphpiamcaa
open Go.RowKit

theorem newRec_any (sd : Int) (w : World) :
    Calls Try.prog 56 #[.int .u32 sd] w fun v w' => v = .returned (.pointer (some ⟨w.heap.size, 0, none⟩)) ∧ Blk w' w.heap.size 154 (recC (.slice none 0 0) 0 0 (restC false 0 none sd 0 0 0)) ∧ Touch Nowhere w w' := by
  have hfin : Blk (w.alloc (.cells (recC (.slice none 0 0) 0 0 (restC false 0 none sd 0 0 0)) 154)) w.heap.size 154 (recC (.slice none 0 0) 0 0 (restC false 0 none sd 0 0 0)) ∧ Touch Nowhere w (w.alloc (.cells (recC (.slice none 0 0) 0 0 (restC false 0 none sd 0 0 0)) 154)) :=
    ⟨Blk.new w 154 _, (Touch.refl Nowhere w).alloc _⟩
  have HF := Lib.hid hfin
  clear hfin
  go_enter Try.func56, Try.ntmps56
  go_wp2_with fail
  go_ret
  exact ⟨rfl, HF.out⟩
end Go.Proofs.Ytlkmmkphpiamcaa
