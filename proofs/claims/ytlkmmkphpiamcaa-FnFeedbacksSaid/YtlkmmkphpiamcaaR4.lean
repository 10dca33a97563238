/-
  FnFeedback over what came in. No condition. By an AI agent.
-/
import Derived.Test.YtlkmmkphpiamcaaBi
import Derived.Test.YtlkmmkphpiamcaaS
namespace Go.Proofs.Ytlkmmkphpiamcaa
open Go.RowKit
theorem IsRow.le {k : IntKind} {w : World} {a : Option Addr} {len cap : Nat} {zs : List Int} (h : IsRow k w a len cap zs) : len ≤ cap := by
  rcases h with ⟨_, rfl, rfl, _⟩ | ⟨_, _, h, _⟩
  · exact Nat.le_refl _
  · exact h
theorem fnFeedback_rows (a0 a1 : Int) (a2 : Option Addr) (len2 cap2 : Nat) (z2 : List Int) (a3 : Option Addr) (len3 cap3 : Nat) (z3 : List Int) (w : World) (_w0 : (Lit.int .u32 a0).wf = true) (_w1 : (Lit.int .u32 a1).wf = true) (w2 : IsRow .u16 w a2 len2 cap2 z2) (w3 : IsRow .i64 w a3 len3 cap3 z3) :
    Calls Try.prog 8 #[.int .u32 a0, .int .u32 a1, .slice a2 len2 cap2, .slice a3 len3 cap3] w fun e w' => e = .returned (.bool true) ∧ Below w.heap.size w w' := by
  obtain ⟨h1, h2, h3⟩ := w2.reads
  obtain ⟨h4, h5, _⟩ := w3.reads
  exact fnFeedback_any a0 a1 len2 cap2 len3 cap3 a2 a3 _ _ w h1 h4 (fun x hx => wf_u16 (h3 x hx)) h2 h5 w2.le w3.le
end Go.Proofs.Ytlkmmkphpiamcaa
