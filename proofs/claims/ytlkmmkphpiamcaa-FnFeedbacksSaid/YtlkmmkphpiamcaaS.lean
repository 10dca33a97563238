/-
  What opens and shuts the rows: a slice of integers that came in reads as a list. No condition. By an AI agent.
-/
import Derived.Test.YtlkmmkphpiamcaaA
import Derived.ProofKit
import Derived.OpenShut
import Derived.ShutString
import Derived.ChangeOld
namespace Go.Proofs.Ytlkmmkphpiamcaa
open Go.ChangeShapes Go.WideShapes Go.ChangeAt Go.RowKit

theorem seatOwn : ownKnob Try.prog.godebug = none := by kernel_rfl
theorem seatLaid : laidOutB Try.prog = true := by kernel_rfl

/-- A slice of integers that came in. -/
def IsRow (k : IntKind) (w : World) (a : Option Addr) (len cap : Nat) (zs : List Int) : Prop :=
  (a = none ∧ len = 0 ∧ cap = 0 ∧ zs = []) ∨
  ∃ x, a = some x ∧ len ≤ cap ∧ cap ≤ maxLen ∧ zs.length = cap ∧ (∀ i, i < zs.length → w.cell? (x.add i) = some (.int k (zs.getD i 0))) ∧ ∀ n ∈ zs, (Lit.int k n).wf = true

theorem IsRow.reads {k : IntKind} {w : World} {a : Option Addr} {len cap : Nat} {zs : List Int} (h : IsRow k w a len cap zs) :
    Reads w w.heap.size 1 a len ((zs.take len).map (Value.int k)) ∧ len ≤ 9223372036854775807 ∧ ∀ x ∈ zs.take len, (Lit.int k x).wf = true := by
  rcases h with ⟨rfl, rfl, rfl, rfl⟩ | ⟨x, rfl, hl, hm, hz, hc, hw⟩
  · exact ⟨Reads.empty _ _ _ _, by omega, by simp⟩
  · refine ⟨⟨by simp; omega, fun hn => ⟨x, rfl, ?_, fun j u hu => ?_⟩⟩, by simp only [maxLen] at hm; omega, fun y hy => hw y (List.mem_of_mem_take hy)⟩
    · have := World.block_lt_of_cell? w _ (hc 0 (by omega))
      rwa [addr_block] at this
    · rw [List.getElem?_map] at hu
      rcases Nat.lt_or_ge j len with hj | hj
      · rw [List.getElem?_take, if_pos hj, List.getElem?_eq_getElem (by omega)] at hu
        simp at hu
        rw [hc j (by omega), ← hu]
        simp [List.getD, List.getElem?_eq_getElem (show j < zs.length by omega)]
      · rw [List.getElem?_eq_none (by simp; omega)] at hu
        cases hu

theorem wf_u16 {x : Int} (h : (Lit.int .u16 x).wf = true) : 0 ≤ x ∧ x ≤ 65535 := by
  simp [Lit.wf, IntKind.min, IntKind.max, IntKind.bits, IntKind.signed] at h
  omega
theorem wf_u32 {x : Int} (h : (Lit.int .u32 x).wf = true) : 0 ≤ x ∧ x ≤ 4294967295 := by
  simp [Lit.wf, IntKind.min, IntKind.max, IntKind.bits, IntKind.signed] at h
  omega
theorem wf_i64 {x : Int} (h : (Lit.int .i64 x).wf = true) : -9223372036854775808 ≤ x ∧ x ≤ 9223372036854775807 := by
  simp [Lit.wf, IntKind.min, IntKind.max, IntKind.bits, IntKind.signed] at h
  omega
end Go.Proofs.Ytlkmmkphpiamcaa
