/-
  FnFeedbacks over what came in. No condition. By an AI agent.
-/
import Derived.Test.YtlkmmkphpiamcaaBj
import Derived.Test.YtlkmmkphpiamcaaR4
namespace Go.Proofs.Ytlkmmkphpiamcaa
open Go.RowKit
theorem fnFeedbacks_rows (a0 a1 : Int) (a2 : Option Addr) (len2 cap2 : Nat) (z2 : List Int) (a3 : Option Addr) (len3 cap3 : Nat) (z3 : List Int) (a4 : Int) (w : World) (_w0 : (Lit.int .u32 a0).wf = true) (_w1 : (Lit.int .u32 a1).wf = true) (w2 : IsRow .u16 w a2 len2 cap2 z2) (w3 : IsRow .i64 w a3 len3 cap3 z3) (_w4 : (Lit.int .i64 a4).wf = true) :
    Calls Try.prog 9 #[.int .u32 a0, .int .u32 a1, .slice a2 len2 cap2, .slice a3 len3 cap3, .int .i64 a4] w fun e w' => e = .returned (.bool true) ∧ Below w.heap.size w w' := by
  obtain ⟨h1, h2, h3⟩ := w2.reads
  obtain ⟨h4, h5, _⟩ := w3.reads
  exact fnFeedbacks_any a0 a1 a4 len2 cap2 len3 cap3 a2 a3 _ _ w h1 h4 (fun x hx => wf_u16 (h3 x hx)) h2 h5 w2.le w3.le
end Go.Proofs.Ytlkmmkphpiamcaa
