/-
  No cell of these rows narrows 'for every input' (looked for: loops, veiled, ifaces, maps, wideKeys, modest, calm, conditions, laid).
  DERIVED. THE GIVEN ROWS OF THIS SEAT. 3 by the template 'for every input the law returns true; each argument reads behind the call as it read before'; 0 by the template 'total and deterministic' (their statements: Qxb6603470aTotals.lean).
  GIVEN WITH THE SEED: the statements are not yours to turn. If you find one false, say at which input.
  Laid BY PROGRAM, IN A SANDBOX (cutbox-rows.mjs): the forced cells as the released guide's own fill.sh prints them over the translation 0dc4e38d0dcca1c2… (all of the seat's roots in one cut). By AI agents, Wed Nov 11 2026. No macro, syntax, notation, axiom, sorry.
-/
import Derived.Test.Qxb6603470aChecked
import GoSem.Claim
import GoSem.ClaimJoined
import GoSem.ClaimMapViews
import Derived.JoinedTies
import Derived.KernelRfl
namespace Go.Proofs.Qxb6603470a
/- THE CELL 'sum', in the pinned program and in every row, IS THE sha256 OF THE DUMP (.gsa) THAT Qxb6603470aProg.lean LOADS. Nothing in Lean hashes anything: it is a label: what it is worth is what the hold of that sum in a sandbox is worth. -/
noncomputable def Try.pinned : Pinned := { name := "qxb6603470a", sum := "0dc4e38d0dcca1c24adffc6c3d74fb63af1e186e8e3e1c5731ccf2eca75afdae", checked := Try.checked }
namespace Rows
def none {H : Type} : Left H := { results := [], args := [] }

/-- 'zzlaws_snaptab_b1.FnSplitMatchesStateMachine': WHATEVER THE INPUT: true; the input reads as it did. -/
def fnSplitMatchesStateMachineSpec : ChangeSpec := { name := "fnSplitMatchesStateMachine", fn := fun _ => fun
  | [d1, d2] => { results := [.lit (.bool true)], args := [d1, d2] }
  | _ => none }
def fnSplitMatchesStateMachineRow : OpenClaim := { program := "qxb6603470a", sum := "0dc4e38d0dcca1c24adffc6c3d74fb63af1e186e8e3e1c5731ccf2eca75afdae", func := "example.com/recoli/recoli/zzlaws_snaptab_b1.FnSplitMatchesStateMachine", spec := "fnSplitMatchesStateMachine", inPlace := ["internal/bytealg.IndexByteString", "internal/abi.NoEscape"], apart := false }
def FnSplitMatchesStateMachineSaid : Prop := fnSplitMatchesStateMachineRow.holds Try.pinned (OpenSpec.ofChange fnSplitMatchesStateMachineSpec)

/-- ITS FALSE NEIGHBOUR: 'it returns false'. Refute it at one input. -/
def fnSplitMatchesStateMachineWrong : ChangeSpec := { name := "fnSplitMatchesStateMachine", fn := fun _ => fun
  | [d1, d2] => { results := [.lit (.bool false)], args := [d1, d2] }
  | _ => none }
def FnSplitMatchesStateMachineWrongFalsely : Prop := fnSplitMatchesStateMachineRow.holds Try.pinned (OpenSpec.ofChange fnSplitMatchesStateMachineWrong)

/-- 'zzlaws_snaptab_b1.FnSplitReadsBackQuotedFields': WHATEVER THE INPUT: true; the input reads as it did. -/
def fnSplitReadsBackQuotedFieldsSpec : ChangeSpec := { name := "fnSplitReadsBackQuotedFields", fn := fun _ => fun
  | [d] => { results := [.lit (.bool true)], args := [d] }
  | _ => none }
def fnSplitReadsBackQuotedFieldsRow : OpenClaim := { program := "qxb6603470a", sum := "0dc4e38d0dcca1c24adffc6c3d74fb63af1e186e8e3e1c5731ccf2eca75afdae", func := "example.com/recoli/recoli/zzlaws_snaptab_b1.FnSplitReadsBackQuotedFields", spec := "fnSplitReadsBackQuotedFields", inPlace := ["internal/bytealg.IndexByteString", "internal/abi.NoEscape"], apart := false }
def FnSplitReadsBackQuotedFieldsSaid : Prop := fnSplitReadsBackQuotedFieldsRow.holds Try.pinned (OpenSpec.ofChange fnSplitReadsBackQuotedFieldsSpec)

/-- ITS FALSE NEIGHBOUR: 'it returns false'. Refute it at one input. -/
def fnSplitReadsBackQuotedFieldsWrong : ChangeSpec := { name := "fnSplitReadsBackQuotedFields", fn := fun _ => fun
  | [d] => { results := [.lit (.bool false)], args := [d] }
  | _ => none }
def FnSplitReadsBackQuotedFieldsWrongFalsely : Prop := fnSplitReadsBackQuotedFieldsRow.holds Try.pinned (OpenSpec.ofChange fnSplitReadsBackQuotedFieldsWrong)

/-- 'zzlaws_snaptab_b1.FnExpandThenAddAgreesWithFullExpansion': WHATEVER THE INPUT: true; the input reads as it did. -/
def fnExpandThenAddAgreesWithFullExpansionSpec : ChangeSpec := { name := "fnExpandThenAddAgreesWithFullExpansion", fn := fun _ => fun
  | [d1, d2, d3, d4, d5] => { results := [.lit (.bool true)], args := [d1, d2, d3, d4, d5] }
  | _ => none }
def fnExpandThenAddAgreesWithFullExpansionRow : OpenClaim := { program := "qxb6603470a", sum := "0dc4e38d0dcca1c24adffc6c3d74fb63af1e186e8e3e1c5731ccf2eca75afdae", func := "example.com/recoli/recoli/zzlaws_snaptab_b1.FnExpandThenAddAgreesWithFullExpansion", spec := "fnExpandThenAddAgreesWithFullExpansion", inPlace := ["internal/bytealg.IndexByteString", "internal/bytealg.IndexString"], recurses := true, named := ["internal/bytealg.MaxLen"], apart := false }
def FnExpandThenAddAgreesWithFullExpansionSaid : Prop := fnExpandThenAddAgreesWithFullExpansionRow.holds Try.pinned (OpenSpec.ofChange fnExpandThenAddAgreesWithFullExpansionSpec)

/-- ITS FALSE NEIGHBOUR: 'it returns false'. Refute it at one input. -/
def fnExpandThenAddAgreesWithFullExpansionWrong : ChangeSpec := { name := "fnExpandThenAddAgreesWithFullExpansion", fn := fun _ => fun
  | [d1, d2, d3, d4, d5] => { results := [.lit (.bool false)], args := [d1, d2, d3, d4, d5] }
  | _ => none }
def FnExpandThenAddAgreesWithFullExpansionWrongFalsely : Prop := fnExpandThenAddAgreesWithFullExpansionRow.holds Try.pinned (OpenSpec.ofChange fnExpandThenAddAgreesWithFullExpansionWrong)

end Rows
end Go.Proofs.Qxb6603470a
