/-
  FnHas over what came in. No condition. By an AI agent.
-/
import Derived.Test.YtlkmmkphpiamcaaQ
import Derived.Test.YtlkmmkphpiamcaaS2
namespace Go.Proofs.Ytlkmmkphpiamcaa
open Go.RowKit
theorem fnHas_rows (a0 : Int) (a1 : Option Addr) (len1 cap1 : Nat) (z1 : List Int) (a2 : Option Addr) (len2 cap2 : Nat) (z2 : List Int) (w : World) (_w0 : (Lit.int .i64 a0).wf = true) (w1 : IsRow .u16 w a1 len1 cap1 z1) (w2 : IsRow .u16 w a2 len2 cap2 z2) :
    Calls Try.prog 4 #[.int .i64 a0, .slice a1 len1 cap1, .slice a2 len2 cap2] w fun e w' => e = .returned (.bool true) ∧ Below w.heap.size w w' := by
  obtain ⟨ns, h1, h2, h3⟩ := w1.u16s
  obtain ⟨qs, g1, g2, g3⟩ := w2.u16s
  exact fnHas_any a0 len1 cap1 len2 cap2 a1 a2 ns qs w h1 h2 h3 g1 g2 g3
end Go.Proofs.Ytlkmmkphpiamcaa
