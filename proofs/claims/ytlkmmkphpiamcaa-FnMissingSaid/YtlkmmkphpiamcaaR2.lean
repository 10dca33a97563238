/-
  FnMissing over what came in. No condition. By an AI agent.
-/
import Derived.Test.YtlkmmkphpiamcaaX
import Derived.Test.YtlkmmkphpiamcaaS2
namespace Go.Proofs.Ytlkmmkphpiamcaa
open Go.RowKit
theorem fnMissing_rows (a0 : Int) (a1 : Option Addr) (len1 cap1 : Nat) (z1 : List Int) (a2 : Int) (w : World) (_w0 : (Lit.int .i64 a0).wf = true) (w1 : IsRow .u16 w a1 len1 cap1 z1) (_w2 : (Lit.int .i64 a2).wf = true) :
    Calls Try.prog 5 #[.int .i64 a0, .slice a1 len1 cap1, .int .i64 a2] w fun e w' => e = .returned (.bool true) ∧ Below w.heap.size w w' := by
  obtain ⟨ns, h1, h2, h3⟩ := w1.u16s
  exact fnMissing_any a0 a2 len1 cap1 a1 ns w h1 h2 h3
end Go.Proofs.Ytlkmmkphpiamcaa
