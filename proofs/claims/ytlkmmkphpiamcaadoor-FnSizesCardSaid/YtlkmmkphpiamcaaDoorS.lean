/-
  What opens and shuts the rows: a slice of integers that came in reads as a list; the listed variable's cell. No condition. By an AI agent.
-/
import Derived.Test.YtlkmmkphpiamcaaDoorK
import Derived.ProofKit
import Derived.LaidMore
import Derived.Lay
import Derived.OpenShut
import Derived.ShutString
import Derived.ChangeOld
import Derived.Stop.Joined
import Derived.Stop.LaidErr
namespace Go.Proofs.YtlkmmkphpiamcaaDoor
open Go.ChangeShapes Go.WideShapes Go.ChangeAt Go.RowKit

theorem seatOwn : ownKnob Tryd.prog.godebug = none := by kernel_rfl
theorem seatLaidOut : laidOutB Tryd.prog = true := by kernel_rfl

theorem eGlobal : Tryd.prog.globalNamed "interceptordata/pub/ptbuffer.ErrInvalidSize" = some 0 := by kernel_rfl
theorem eType : (Tryd.prog.globals[0]?).map (·.type) = some 45 := by kernel_rfl
theorem eStar : "*" ++ "errors.errorString" = "*errors.errorString" := by decide
theorem eRow (u : TypeId) (h : Tryd.prog.typeName? 3 u = some "*errors.errorString") : u = 100 :=
  typeName_ptr_named (nm := "errors.errorString") (by rw [eStar]; kernel_rfl) (by kernel_rfl) (by decide) u (by rw [eStar]; exact h)
def seatVars : List (String × DataW Unit) := [("interceptordata/pub/ptbuffer.ErrInvalidSize", Rows.laid_interceptordata_pub_ptbuffer_ErrInvalidSize)]
theorem errAt_of_laid {W : World} (h : laidMetH Tryd.prog seatVars W) : ErrAt W := by
  rw [MakeChecks.laidMetH_plain _ _ _ (by kernel_rfl)] at h
  obtain ⟨a0, s0, hv0, hc0, hs0, hz0⟩ := laid_sentinel h eGlobal eType Tryd.underlying45 eRow Tryd.underlying100 Tryd.underlying124 rfl rfl Tryd.underlying9 (by kernel_rfl) (by kernel_rfl)
  have hc : W.cell? ⟨0, 0, none⟩ = some (.iface 100 (.pointer (some a0))) := by simpa using World.var?_cell eGlobal hv0 0
  exact ⟨World.block_lt_of_cell? W ⟨0, 0, none⟩ hc, _, _, hc⟩
theorem door_met (os : Os) (args : Array Value) : laidMetH Tryd.prog seatVars ((World.doorLaid Tryd.prog 400 os).forCall (fun _ _ => 0) ⟨#[], args, []⟩).memory :=
  laidMetH_of_parts3 (fuel := 8) (laidMet_of_run' 8 (by kernel_rfl) (by kernel_rfl)) (by kernel_rfl) (by kernel_rfl)

/-- A slice of integers that came in. -/
def IsRow (k : IntKind) (w : World) (a : Option Addr) (len cap : Nat) (zs : List Int) : Prop :=
  (a = none ∧ len = 0 ∧ cap = 0 ∧ zs = []) ∨
  ∃ x, a = some x ∧ len ≤ cap ∧ cap ≤ maxLen ∧ zs.length = cap ∧ (∀ i, i < zs.length → w.cell? (x.add i) = some (.int k (zs.getD i 0))) ∧ ∀ n ∈ zs, (Lit.int k n).wf = true

theorem IsRow.reads {k : IntKind} {w : World} {a : Option Addr} {len cap : Nat} {zs : List Int} (h : IsRow k w a len cap zs) :
    Reads w w.heap.size 1 a len ((zs.take len).map (Value.int k)) ∧ len ≤ 9223372036854775807 ∧ ∀ x ∈ zs.take len, (Lit.int k x).wf = true := by
  rcases h with ⟨rfl, rfl, rfl, rfl⟩ | ⟨x, rfl, hl, hm, hz, hc, hw⟩
  · exact ⟨Reads.empty _ _ _ _, by omega, by simp⟩
  · refine ⟨⟨by simp; omega, fun hn => ⟨x, rfl, ?_, fun j u hu => ?_⟩⟩, by simp only [maxLen] at hm; omega, fun y hy => hw y (List.mem_of_mem_take hy)⟩
    · have := World.block_lt_of_cell? w _ (hc 0 (by omega))
      rwa [addr_block] at this
    · rw [List.getElem?_map] at hu
      rcases Nat.lt_or_ge j len with hj | hj
      · rw [List.getElem?_take, if_pos hj, List.getElem?_eq_getElem (by omega)] at hu
        simp at hu
        rw [hc j (by omega), ← hu]
        simp [List.getD, List.getElem?_eq_getElem (show j < zs.length by omega)]
      · rw [List.getElem?_eq_none (by simp; omega)] at hu
        cases hu

theorem wf_u16 {x : Int} (h : (Lit.int .u16 x).wf = true) : 0 ≤ x ∧ x ≤ 65535 := by
  simp [Lit.wf, IntKind.min, IntKind.max, IntKind.bits, IntKind.signed] at h
  omega
theorem wf_u32 {x : Int} (h : (Lit.int .u32 x).wf = true) : 0 ≤ x ∧ x ≤ 4294967295 := by
  simp [Lit.wf, IntKind.min, IntKind.max, IntKind.bits, IntKind.signed] at h
  omega
theorem wf_i64 {x : Int} (h : (Lit.int .i64 x).wf = true) : -9223372036854775808 ≤ x ∧ x ≤ 9223372036854775807 := by
  simp [Lit.wf, IntKind.min, IntKind.max, IntKind.bits, IntKind.signed] at h
  omega
theorem IsRow.u16s {w : World} {a : Option Addr} {len cap : Nat} {zs : List Int} (h : IsRow .u16 w a len cap zs) :
    ∃ ns : List Nat, Reads w w.heap.size 1 a len (U16s ns) ∧ len ≤ 9223372036854775807 ∧ ∀ q ∈ ns, q ≤ 65535 := by
  obtain ⟨h1, h2, h3⟩ := h.reads
  refine ⟨(zs.take len).map Int.toNat, ?_, h2, fun q hq => ?_⟩
  · have e : U16s ((zs.take len).map Int.toNat) = (zs.take len).map (Value.int .u16) := by
      rw [U16s, List.map_map]
      apply List.map_congr_left
      intro x hx
      have := wf_u16 (h3 x hx)
      simp
      omega
    rw [e]
    exact h1
  · obtain ⟨x, hx, rfl⟩ := List.mem_map.1 hq
    have := wf_u16 (h3 x hx)
    omega
end Go.Proofs.YtlkmmkphpiamcaaDoor
