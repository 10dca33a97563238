/-
  No cell of these rows narrows 'for every input' (looked for: loops, veiled, ifaces, maps, wideKeys, modest, calm, conditions, laid).
  DERIVED. THE GIVEN ROWS OF THIS SEAT. 7 by the template 'for every input the law returns true; each argument reads behind the call as it read before'; 0 by the template 'total and deterministic' (their statements: YtlkmmkphpiamcaaTotals.lean).
  GIVEN WITH THE SEED: the statements are not yours to turn. If you find one false, say at which input.
  Laid BY PROGRAM, IN A SANDBOX (cutbox-rows.mjs): the forced cells as the released guide's own fill.sh prints them over the translation 8c567b8446da3470… (all of the seat's roots in one cut). By AI agents, Wed Nov 11 2026. No macro, syntax, notation, axiom, sorry.
-/
import Derived.Test.YtlkmmkphpiamcaaChecked
import GoSem.Claim
import GoSem.ClaimJoined
import GoSem.ClaimMapViews
import Derived.JoinedTies
import Derived.KernelRfl
namespace Go.Proofs.Ytlkmmkphpiamcaa
/- THE CELL 'sum', in the pinned program and in every row, IS THE sha256 OF THE DUMP (.gsa) THAT YtlkmmkphpiamcaaProg.lean LOADS. Nothing in Lean hashes anything: it is a label: what it is worth is what the hold of that sum in a sandbox is worth. -/
noncomputable def Try.pinned : Pinned := { name := "ytlkmmkphpiamcaa", sum := "8c567b8446da347002016c4c24b607ee72f518288661340f96abf8d320523d6c", checked := Try.checked }
namespace Rows
def none {H : Type} : Left H := { results := [], args := [] }

/-- 'laws.FnUnwrap': WHATEVER THE INPUT: true; the input reads as it did. -/
def fnUnwrapSpec : ChangeSpec := { name := "fnUnwrap", fn := fun _ => fun
  | [d] => { results := [.lit (.bool true)], args := [d] }
  | _ => none }
def fnUnwrapRow : OpenClaim := { program := "ytlkmmkphpiamcaa", sum := "8c567b8446da347002016c4c24b607ee72f518288661340f96abf8d320523d6c", func := "interceptordata/laws.FnUnwrap", spec := "fnUnwrap", unfollowed := true, recurses := true, apart := false }
def FnUnwrapSaid : Prop := fnUnwrapRow.holds Try.pinned (OpenSpec.ofChange fnUnwrapSpec)

/-- ITS FALSE NEIGHBOUR: 'it returns false'. Refute it at one input. -/
def fnUnwrapWrong : ChangeSpec := { name := "fnUnwrap", fn := fun _ => fun
  | [d] => { results := [.lit (.bool false)], args := [d] }
  | _ => none }
def FnUnwrapWrongFalsely : Prop := fnUnwrapRow.holds Try.pinned (OpenSpec.ofChange fnUnwrapWrong)

/-- 'laws.FnHas': WHATEVER THE INPUT: true; the input reads as it did. -/
def fnHasSpec : ChangeSpec := { name := "fnHas", fn := fun _ => fun
  | [d1, d2, d3] => { results := [.lit (.bool true)], args := [d1, d2, d3] }
  | _ => none }
def fnHasRow : OpenClaim := { program := "ytlkmmkphpiamcaa", sum := "8c567b8446da347002016c4c24b607ee72f518288661340f96abf8d320523d6c", func := "interceptordata/laws.FnHas", spec := "fnHas", unfollowed := true, recurses := true, apart := false }
def FnHasSaid : Prop := fnHasRow.holds Try.pinned (OpenSpec.ofChange fnHasSpec)

/-- ITS FALSE NEIGHBOUR: 'it returns false'. Refute it at one input. -/
def fnHasWrong : ChangeSpec := { name := "fnHas", fn := fun _ => fun
  | [d1, d2, d3] => { results := [.lit (.bool false)], args := [d1, d2, d3] }
  | _ => none }
def FnHasWrongFalsely : Prop := fnHasRow.holds Try.pinned (OpenSpec.ofChange fnHasWrong)

/-- 'laws.FnMissing': WHATEVER THE INPUT: true; the input reads as it did. -/
def fnMissingSpec : ChangeSpec := { name := "fnMissing", fn := fun _ => fun
  | [d1, d2, d3] => { results := [.lit (.bool true)], args := [d1, d2, d3] }
  | _ => none }
def fnMissingRow : OpenClaim := { program := "ytlkmmkphpiamcaa", sum := "8c567b8446da347002016c4c24b607ee72f518288661340f96abf8d320523d6c", func := "interceptordata/laws.FnMissing", spec := "fnMissing", unfollowed := true, recurses := true, apart := false }
def FnMissingSaid : Prop := fnMissingRow.holds Try.pinned (OpenSpec.ofChange fnMissingSpec)

/-- ITS FALSE NEIGHBOUR: 'it returns false'. Refute it at one input. -/
def fnMissingWrong : ChangeSpec := { name := "fnMissing", fn := fun _ => fun
  | [d1, d2, d3] => { results := [.lit (.bool false)], args := [d1, d2, d3] }
  | _ => none }
def FnMissingWrongFalsely : Prop := fnMissingRow.holds Try.pinned (OpenSpec.ofChange fnMissingWrong)

/-- 'laws.FnQueue': WHATEVER THE INPUT: true; the input reads as it did. -/
def fnQueueSpec : ChangeSpec := { name := "fnQueue", fn := fun _ => fun
  | [d] => { results := [.lit (.bool true)], args := [d] }
  | _ => none }
def fnQueueRow : OpenClaim := { program := "ytlkmmkphpiamcaa", sum := "8c567b8446da347002016c4c24b607ee72f518288661340f96abf8d320523d6c", func := "interceptordata/laws.FnQueue", spec := "fnQueue", unfollowed := true, recurses := true, apart := false }
def FnQueueSaid : Prop := fnQueueRow.holds Try.pinned (OpenSpec.ofChange fnQueueSpec)

/-- ITS FALSE NEIGHBOUR: 'it returns false'. Refute it at one input. -/
def fnQueueWrong : ChangeSpec := { name := "fnQueue", fn := fun _ => fun
  | [d] => { results := [.lit (.bool false)], args := [d] }
  | _ => none }
def FnQueueWrongFalsely : Prop := fnQueueRow.holds Try.pinned (OpenSpec.ofChange fnQueueWrong)

/-- 'laws.FnJitter': WHATEVER THE INPUT: true; the input reads as it did. -/
def fnJitterSpec : ChangeSpec := { name := "fnJitter", fn := fun _ => fun
  | [d1, d2, d3] => { results := [.lit (.bool true)], args := [d1, d2, d3] }
  | _ => none }
def fnJitterRow : OpenClaim := { program := "ytlkmmkphpiamcaa", sum := "8c567b8446da347002016c4c24b607ee72f518288661340f96abf8d320523d6c", func := "interceptordata/laws.FnJitter", spec := "fnJitter", unfollowed := true, recurses := true, apart := false }
def FnJitterSaid : Prop := fnJitterRow.holds Try.pinned (OpenSpec.ofChange fnJitterSpec)

/-- ITS FALSE NEIGHBOUR: 'it returns false'. Refute it at one input. -/
def fnJitterWrong : ChangeSpec := { name := "fnJitter", fn := fun _ => fun
  | [d1, d2, d3] => { results := [.lit (.bool false)], args := [d1, d2, d3] }
  | _ => none }
def FnJitterWrongFalsely : Prop := fnJitterRow.holds Try.pinned (OpenSpec.ofChange fnJitterWrong)

/-- 'laws.FnFeedback': WHATEVER THE INPUT: true; the input reads as it did. -/
def fnFeedbackSpec : ChangeSpec := { name := "fnFeedback", fn := fun _ => fun
  | [d1, d2, d3, d4] => { results := [.lit (.bool true)], args := [d1, d2, d3, d4] }
  | _ => none }
def fnFeedbackRow : OpenClaim := { program := "ytlkmmkphpiamcaa", sum := "8c567b8446da347002016c4c24b607ee72f518288661340f96abf8d320523d6c", func := "interceptordata/laws.FnFeedback", spec := "fnFeedback", unfollowed := true, recurses := true, apart := false }
def FnFeedbackSaid : Prop := fnFeedbackRow.holds Try.pinned (OpenSpec.ofChange fnFeedbackSpec)

/-- ITS FALSE NEIGHBOUR: 'it returns false'. Refute it at one input. -/
def fnFeedbackWrong : ChangeSpec := { name := "fnFeedback", fn := fun _ => fun
  | [d1, d2, d3, d4] => { results := [.lit (.bool false)], args := [d1, d2, d3, d4] }
  | _ => none }
def FnFeedbackWrongFalsely : Prop := fnFeedbackRow.holds Try.pinned (OpenSpec.ofChange fnFeedbackWrong)

/-- 'laws.FnFeedbacks': WHATEVER THE INPUT: true; the input reads as it did. -/
def fnFeedbacksSpec : ChangeSpec := { name := "fnFeedbacks", fn := fun _ => fun
  | [d1, d2, d3, d4, d5] => { results := [.lit (.bool true)], args := [d1, d2, d3, d4, d5] }
  | _ => none }
def fnFeedbacksRow : OpenClaim := { program := "ytlkmmkphpiamcaa", sum := "8c567b8446da347002016c4c24b607ee72f518288661340f96abf8d320523d6c", func := "interceptordata/laws.FnFeedbacks", spec := "fnFeedbacks", unfollowed := true, recurses := true, apart := false }
def FnFeedbacksSaid : Prop := fnFeedbacksRow.holds Try.pinned (OpenSpec.ofChange fnFeedbacksSpec)

/-- ITS FALSE NEIGHBOUR: 'it returns false'. Refute it at one input. -/
def fnFeedbacksWrong : ChangeSpec := { name := "fnFeedbacks", fn := fun _ => fun
  | [d1, d2, d3, d4, d5] => { results := [.lit (.bool false)], args := [d1, d2, d3, d4, d5] }
  | _ => none }
def FnFeedbacksWrongFalsely : Prop := fnFeedbacksRow.holds Try.pinned (OpenSpec.ofChange fnFeedbacksWrong)

/- THE SECOND FORM. 'bulk': how many values and letters a reading holds, each counted each time it is reached (what is shared counts as often as it is met; a slice's spare places count too). A statement '..UptoSaid' is the law's where the arguments, and the package variables that the reading takes, are together of bulk at most 1048576: NARROWER than '..Said'. Prove '..Said' where nothing that the law and all that it calls make is longer than what came in: it says more and counts as full. Else prove '..UptoSaid'. A law counts once. -/
mutual
def uptoBulk {H : Type} : DataW H → Nat
  | .lit (.string bytes) => bytes.length + 1
  | .lit _ => 1
  | .nil => 1
  | .ptr d => uptoBulk d + 1
  | .slice elems spare => uptoBulkAll elems + uptoBulkAll spare + 1
  | .agg parts => uptoBulkAll parts + 1
  | .iface _ d => uptoBulk d + 1
  | .map entries => uptoBulkEntries entries + 1
  | .held _ => 1
def uptoBulkAll {H : Type} : List (DataW H) → Nat
  | [] => 0
  | d :: r => uptoBulk d + uptoBulkAll r
def uptoBulkEntries {H : Type} : List (Lit × DataW H) → Nat
  | [] => 0
  | x :: r => uptoBulkEntry x + uptoBulkEntries r
def uptoBulkEntry {H : Type} : Lit × DataW H → Nat
  | (.string bytes, d) => bytes.length + uptoBulk d + 1
  | (_, d) => uptoBulk d + 1
 end
def uptoSmall : (H : Type) → List (DataW H) → Bool := fun _ ds => decide (uptoBulkAll ds ≤ 1048576)
def OpenSpec.upto (s : _root_.Go.ChangeSpec) : _root_.Go.OpenSpec := { _root_.Go.OpenSpec.ofChange s with cond := some uptoSmall }

/-- 'laws.FnUnwrap', WHERE WHAT IT READS IS OF BULK AT MOST 1048576: true; the input reads as it did. -/
def fnUnwrapUptoRow : OpenClaim := { program := "ytlkmmkphpiamcaa", sum := "8c567b8446da347002016c4c24b607ee72f518288661340f96abf8d320523d6c", func := "interceptordata/laws.FnUnwrap", spec := "fnUnwrap", unfollowed := true, recurses := true, apart := false, narrowed := true }
def FnUnwrapUptoSaid : Prop := fnUnwrapUptoRow.holds Try.pinned (OpenSpec.upto fnUnwrapSpec)

/-- 'laws.FnHas', WHERE WHAT IT READS IS OF BULK AT MOST 1048576: true; the input reads as it did. -/
def fnHasUptoRow : OpenClaim := { program := "ytlkmmkphpiamcaa", sum := "8c567b8446da347002016c4c24b607ee72f518288661340f96abf8d320523d6c", func := "interceptordata/laws.FnHas", spec := "fnHas", unfollowed := true, recurses := true, apart := false, narrowed := true }
def FnHasUptoSaid : Prop := fnHasUptoRow.holds Try.pinned (OpenSpec.upto fnHasSpec)

/-- 'laws.FnMissing', WHERE WHAT IT READS IS OF BULK AT MOST 1048576: true; the input reads as it did. -/
def fnMissingUptoRow : OpenClaim := { program := "ytlkmmkphpiamcaa", sum := "8c567b8446da347002016c4c24b607ee72f518288661340f96abf8d320523d6c", func := "interceptordata/laws.FnMissing", spec := "fnMissing", unfollowed := true, recurses := true, apart := false, narrowed := true }
def FnMissingUptoSaid : Prop := fnMissingUptoRow.holds Try.pinned (OpenSpec.upto fnMissingSpec)

/-- 'laws.FnQueue', WHERE WHAT IT READS IS OF BULK AT MOST 1048576: true; the input reads as it did. -/
def fnQueueUptoRow : OpenClaim := { program := "ytlkmmkphpiamcaa", sum := "8c567b8446da347002016c4c24b607ee72f518288661340f96abf8d320523d6c", func := "interceptordata/laws.FnQueue", spec := "fnQueue", unfollowed := true, recurses := true, apart := false, narrowed := true }
def FnQueueUptoSaid : Prop := fnQueueUptoRow.holds Try.pinned (OpenSpec.upto fnQueueSpec)

/-- 'laws.FnJitter', WHERE WHAT IT READS IS OF BULK AT MOST 1048576: true; the input reads as it did. -/
def fnJitterUptoRow : OpenClaim := { program := "ytlkmmkphpiamcaa", sum := "8c567b8446da347002016c4c24b607ee72f518288661340f96abf8d320523d6c", func := "interceptordata/laws.FnJitter", spec := "fnJitter", unfollowed := true, recurses := true, apart := false, narrowed := true }
def FnJitterUptoSaid : Prop := fnJitterUptoRow.holds Try.pinned (OpenSpec.upto fnJitterSpec)

/-- 'laws.FnFeedback', WHERE WHAT IT READS IS OF BULK AT MOST 1048576: true; the input reads as it did. -/
def fnFeedbackUptoRow : OpenClaim := { program := "ytlkmmkphpiamcaa", sum := "8c567b8446da347002016c4c24b607ee72f518288661340f96abf8d320523d6c", func := "interceptordata/laws.FnFeedback", spec := "fnFeedback", unfollowed := true, recurses := true, apart := false, narrowed := true }
def FnFeedbackUptoSaid : Prop := fnFeedbackUptoRow.holds Try.pinned (OpenSpec.upto fnFeedbackSpec)

/-- 'laws.FnFeedbacks', WHERE WHAT IT READS IS OF BULK AT MOST 1048576: true; the input reads as it did. -/
def fnFeedbacksUptoRow : OpenClaim := { program := "ytlkmmkphpiamcaa", sum := "8c567b8446da347002016c4c24b607ee72f518288661340f96abf8d320523d6c", func := "interceptordata/laws.FnFeedbacks", spec := "fnFeedbacks", unfollowed := true, recurses := true, apart := false, narrowed := true }
def FnFeedbacksUptoSaid : Prop := fnFeedbacksUptoRow.holds Try.pinned (OpenSpec.upto fnFeedbacksSpec)

end Rows
end Go.Proofs.Ytlkmmkphpiamcaa
