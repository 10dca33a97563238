/-
  FnJitter over what came in. No condition. By an AI agent.
-/
import Derived.Test.YtlkmmkphpiamcaaJk
import Derived.Test.YtlkmmkphpiamcaaS
namespace Go.Proofs.Ytlkmmkphpiamcaa
open Go.RowKit
theorem fnJitter_rows (a0 a1 : Int) (a2 : Option Addr) (len2 cap2 : Nat) (z2 : List Int) (w : World) (w0 : (Lit.int .i64 a0).wf = true) (w1 : (Lit.int .u16 a1).wf = true) (w2 : IsRow .i64 w a2 len2 cap2 z2) :
    Calls Try.prog 7 #[.int .i64 a0, .int .u16 a1, .slice a2 len2 cap2] w fun e w' => e = .returned (.bool true) ∧ Below w.heap.size w w' := by
  obtain ⟨h1, h2, h3⟩ := w2.reads
  obtain ⟨q0, q1⟩ := wf_u16 w1
  obtain ⟨p, rfl⟩ : ∃ p : Nat, a1 = p := ⟨a1.toNat, by omega⟩
  exact fnJitter_any a0 p len2 cap2 a2 _ w h1 h2 (fun x hx => wf_i64 (h3 x hx)) (wf_i64 w0) (by omega)
end Go.Proofs.Ytlkmmkphpiamcaa
