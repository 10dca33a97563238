/-
  A slice of numbers of 16 bits that came in, as natural numbers. No condition. By an AI agent.
-/
import Derived.Test.YtlkmmkphpiamcaaS
import Derived.Test.YtlkmmkphpiamcaaK
namespace Go.Proofs.Ytlkmmkphpiamcaa
open Go.RowKit
theorem IsRow.u16s {w : World} {a : Option Addr} {len cap : Nat} {zs : List Int} (h : IsRow .u16 w a len cap zs) :
    ∃ ns : List Nat, Reads w w.heap.size 1 a len (U16s ns) ∧ len ≤ 9223372036854775807 ∧ ∀ q ∈ ns, q ≤ 65535 := by
  obtain ⟨h1, h2, h3⟩ := h.reads
  refine ⟨(zs.take len).map Int.toNat, ?_, h2, fun q hq => ?_⟩
  · have e : U16s ((zs.take len).map Int.toNat) = (zs.take len).map (Value.int .u16) := by
      rw [U16s, List.map_map]
      apply List.map_congr_left
      intro x hx
      have := wf_u16 (h3 x hx)
      simp
      omega
    rw [e]
    exact h1
  · obtain ⟨x, hx, rfl⟩ := List.mem_map.1 hq
    have := wf_u16 (h3 x hx)
    omega
end Go.Proofs.Ytlkmmkphpiamcaa
