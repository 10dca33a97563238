/-
  NARROWER THAN 'FOR EVERY INPUT', by the rows' own cells (each row's printed sentence says how): FnRetained: laid · FnSizes: laid.
  DERIVED. THE GIVEN ROWS OF THIS SEAT. 2 by the template 'for every input the law returns true; each argument reads behind the call as it read before'; 0 by the template 'total and deterministic' (their statements: YtlkmmkphpiamcaaDoorTotals.lean).
  GIVEN WITH THE SEED: the statements are not yours to turn. If you find one false, say at which input.
  Laid BY PROGRAM, IN A SANDBOX (cutbox-rows.mjs): the forced cells as the released guide's own fill.sh prints them over the translation 39f252157b974474… (all of the seat's roots in one cut). By AI agents, Wed Nov 11 2026. No macro, syntax, notation, axiom, sorry.
-/
import Derived.Test.YtlkmmkphpiamcaaDoorChecked
import GoSem.Claim
import GoSem.ClaimJoined
import GoSem.ClaimMapViews
import Derived.JoinedTies
import Derived.KernelRfl
namespace Go.Proofs.YtlkmmkphpiamcaaDoor
/- THE CELL 'sum', in the pinned program and in every row, IS THE sha256 OF THE DUMP (.gsa) THAT YtlkmmkphpiamcaaDoorProg.lean LOADS. Nothing in Lean hashes anything: it is a label: what it is worth is what the hold of that sum in a sandbox is worth. -/
noncomputable def Tryd.pinned : Pinned := { name := "ytlkmmkphpiamcaadoor", sum := "39f252157b974474fcb2927ab494ad53572246e0416cc204815a7e8802f182a8", checked := Tryd.checked }
namespace Rows
def none {H : Type} : Left H := { results := [], args := [] }

/- WHAT THE LISTED PACKAGE-LEVEL VARIABLES READ AS WHEN THE CALL BEGINS. Each datum BY PROGRAM (the guide's laid-datum.mjs) off the statement by which the dump's own 'gosem.cut.vars' lays the variable. In a bare row this is a premise. The card (YtlkmmkphpiamcaaDoorCards.lean) ties it to the program's text. -/
def laid_interceptordata_pub_ptbuffer_ErrInvalidSize {H : Type} : DataW H := .iface "*errors.errorString" (.ptr (.agg [.lit (.string [105, 110, 118, 97, 108, 105, 100, 32, 98, 117, 102, 102, 101, 114, 32, 115, 105, 122, 101])]))

/-- 'laws.FnRetained': WHATEVER THE INPUT: true; the input reads as it did. -/
def fnRetainedSpec : ChangeSpec := { name := "fnRetained", fn := fun _ => fun
  | [d1, d2, d3] => { results := [.lit (.bool true)], args := [d1, d2, d3] }
  | _ => none }
def fnRetainedRow : OpenClaim := { program := "ytlkmmkphpiamcaadoor", sum := "39f252157b974474fcb2927ab494ad53572246e0416cc204815a7e8802f182a8", func := "interceptordata/laws.FnRetained", spec := "fnRetained", unfollowed := true, recurses := true, named := ["interceptordata/pub/ptbuffer.ErrInvalidSize"], apart := false, laid := [("interceptordata/pub/ptbuffer.ErrInvalidSize", laid_interceptordata_pub_ptbuffer_ErrInvalidSize)] }
def FnRetainedSaid : Prop := fnRetainedRow.holds Tryd.pinned (OpenSpec.ofChange fnRetainedSpec)

/-- ITS FALSE NEIGHBOUR: 'it returns false'. Refute it at one input. -/
def fnRetainedWrong : ChangeSpec := { name := "fnRetained", fn := fun _ => fun
  | [d1, d2, d3] => { results := [.lit (.bool false)], args := [d1, d2, d3] }
  | _ => none }
def FnRetainedWrongFalsely : Prop := fnRetainedRow.holds Tryd.pinned (OpenSpec.ofChange fnRetainedWrong)

/-- 'laws.FnSizes': WHATEVER THE INPUT: true; the input reads as it did. -/
def fnSizesSpec : ChangeSpec := { name := "fnSizes", fn := fun _ => fun
  | [d] => { results := [.lit (.bool true)], args := [d] }
  | _ => none }
def fnSizesRow : OpenClaim := { program := "ytlkmmkphpiamcaadoor", sum := "39f252157b974474fcb2927ab494ad53572246e0416cc204815a7e8802f182a8", func := "interceptordata/laws.FnSizes", spec := "fnSizes", unfollowed := true, recurses := true, named := ["interceptordata/pub/ptbuffer.ErrInvalidSize"], apart := false, laid := [("interceptordata/pub/ptbuffer.ErrInvalidSize", laid_interceptordata_pub_ptbuffer_ErrInvalidSize)] }
def FnSizesSaid : Prop := fnSizesRow.holds Tryd.pinned (OpenSpec.ofChange fnSizesSpec)

/-- ITS FALSE NEIGHBOUR: 'it returns false'. Refute it at one input. -/
def fnSizesWrong : ChangeSpec := { name := "fnSizes", fn := fun _ => fun
  | [d] => { results := [.lit (.bool false)], args := [d] }
  | _ => none }
def FnSizesWrongFalsely : Prop := fnSizesRow.holds Tryd.pinned (OpenSpec.ofChange fnSizesWrong)

/- THE SECOND FORM. 'bulk': how many values and letters a reading holds, each counted each time it is reached (what is shared counts as often as it is met; a slice's spare places count too). A statement '..UptoSaid' is the law's where the arguments, and the package variables that the reading takes, are together of bulk at most 1048576: NARROWER than '..Said'. Prove '..Said' where nothing that the law and all that it calls make is longer than what came in: it says more and counts as full. Else prove '..UptoSaid'. A law counts once. -/
mutual
def uptoBulk {H : Type} : DataW H → Nat
  | .lit (.string bytes) => bytes.length + 1
  | .lit _ => 1
  | .nil => 1
  | .ptr d => uptoBulk d + 1
  | .slice elems spare => uptoBulkAll elems + uptoBulkAll spare + 1
  | .agg parts => uptoBulkAll parts + 1
  | .iface _ d => uptoBulk d + 1
  | .map entries => uptoBulkEntries entries + 1
  | .held _ => 1
def uptoBulkAll {H : Type} : List (DataW H) → Nat
  | [] => 0
  | d :: r => uptoBulk d + uptoBulkAll r
def uptoBulkEntries {H : Type} : List (Lit × DataW H) → Nat
  | [] => 0
  | x :: r => uptoBulkEntry x + uptoBulkEntries r
def uptoBulkEntry {H : Type} : Lit × DataW H → Nat
  | (.string bytes, d) => bytes.length + uptoBulk d + 1
  | (_, d) => uptoBulk d + 1
 end
def uptoSmall : (H : Type) → List (DataW H) → Bool := fun _ ds => decide (uptoBulkAll ds ≤ 1048576)
def OpenSpec.upto (s : _root_.Go.ChangeSpec) : _root_.Go.OpenSpec := { _root_.Go.OpenSpec.ofChange s with cond := some uptoSmall }

/-- 'laws.FnRetained', WHERE WHAT IT READS IS OF BULK AT MOST 1048576: true; the input reads as it did. -/
def fnRetainedUptoRow : OpenClaim := { program := "ytlkmmkphpiamcaadoor", sum := "39f252157b974474fcb2927ab494ad53572246e0416cc204815a7e8802f182a8", func := "interceptordata/laws.FnRetained", spec := "fnRetained", unfollowed := true, recurses := true, named := ["interceptordata/pub/ptbuffer.ErrInvalidSize"], apart := false, laid := [("interceptordata/pub/ptbuffer.ErrInvalidSize", laid_interceptordata_pub_ptbuffer_ErrInvalidSize)], narrowed := true }
def FnRetainedUptoSaid : Prop := fnRetainedUptoRow.holds Tryd.pinned (OpenSpec.upto fnRetainedSpec)

/-- 'laws.FnSizes', WHERE WHAT IT READS IS OF BULK AT MOST 1048576: true; the input reads as it did. -/
def fnSizesUptoRow : OpenClaim := { program := "ytlkmmkphpiamcaadoor", sum := "39f252157b974474fcb2927ab494ad53572246e0416cc204815a7e8802f182a8", func := "interceptordata/laws.FnSizes", spec := "fnSizes", unfollowed := true, recurses := true, named := ["interceptordata/pub/ptbuffer.ErrInvalidSize"], apart := false, laid := [("interceptordata/pub/ptbuffer.ErrInvalidSize", laid_interceptordata_pub_ptbuffer_ErrInvalidSize)], narrowed := true }
def FnSizesUptoSaid : Prop := fnSizesUptoRow.holds Tryd.pinned (OpenSpec.upto fnSizesSpec)

end Rows
end Go.Proofs.YtlkmmkphpiamcaaDoor
