/-
  No cell of these rows narrows 'for every input' (looked for: loops, veiled, ifaces, maps, wideKeys, modest, calm, conditions, laid).
  DERIVED. THE GIVEN ROWS OF THIS SEAT. 2 by the template 'for every input the law returns true; each argument reads behind the call as it read before'; 0 by the template 'total and deterministic' (their statements: Qxb6603798aTotals.lean).
  GIVEN WITH THE SEED: the statements are not yours to turn. If you find one false, say at which input.
  Laid BY PROGRAM, IN A SANDBOX (cutbox-rows.mjs): the forced cells as the released guide's own fill.sh prints them over the translation f543c929bceb2172… (all of the seat's roots in one cut). By AI agents, Wed Nov 11 2026. No macro, syntax, notation, axiom, sorry.
-/
import Derived.Test.Qxb6603798aChecked
import GoSem.Claim
import GoSem.ClaimJoined
import GoSem.ClaimMapViews
import Derived.JoinedTies
import Derived.KernelRfl
namespace Go.Proofs.Qxb6603798a
/- THE CELL 'sum', in the pinned program and in every row, IS THE sha256 OF THE DUMP (.gsa) THAT Qxb6603798aProg.lean LOADS. Nothing in Lean hashes anything: it is a label: what it is worth is what the hold of that sum in a sandbox is worth. -/
noncomputable def Try.pinned : Pinned := { name := "qxb6603798a", sum := "f543c929bceb21725bed348bc1882d8a536b8859241b4252ca2318687f76b883", checked := Try.checked }
namespace Rows
def none {H : Type} : Left H := { results := [], args := [] }

/-- 'zzlaws_root_b1.FnValueEndMatchesGrammar': WHATEVER THE INPUT: true; the input reads as it did. -/
def fnValueEndMatchesGrammarSpec : ChangeSpec := { name := "fnValueEndMatchesGrammar", fn := fun _ => fun
  | [d1, d2] => { results := [.lit (.bool true)], args := [d1, d2] }
  | _ => none }
def fnValueEndMatchesGrammarRow : OpenClaim := { program := "qxb6603798a", sum := "f543c929bceb21725bed348bc1882d8a536b8859241b4252ca2318687f76b883", func := "example.com/gravamen/gravamen/zzlaws_root_b1.FnValueEndMatchesGrammar", spec := "fnValueEndMatchesGrammar", inPlace := ["internal/bytealg.IndexByteString"], recurses := true, apart := false }
def FnValueEndMatchesGrammarSaid : Prop := fnValueEndMatchesGrammarRow.holds Try.pinned (OpenSpec.ofChange fnValueEndMatchesGrammarSpec)

/-- ITS FALSE NEIGHBOUR: 'it returns false'. Refute it at one input. -/
def fnValueEndMatchesGrammarWrong : ChangeSpec := { name := "fnValueEndMatchesGrammar", fn := fun _ => fun
  | [d1, d2] => { results := [.lit (.bool false)], args := [d1, d2] }
  | _ => none }
def FnValueEndMatchesGrammarWrongFalsely : Prop := fnValueEndMatchesGrammarRow.holds Try.pinned (OpenSpec.ofChange fnValueEndMatchesGrammarWrong)

/-- 'zzlaws_root_b1.FnLocateMatchesGrammar': WHATEVER THE INPUT: true; the input reads as it did. -/
def fnLocateMatchesGrammarSpec : ChangeSpec := { name := "fnLocateMatchesGrammar", fn := fun _ => fun
  | [d1, d2] => { results := [.lit (.bool true)], args := [d1, d2] }
  | _ => none }
def fnLocateMatchesGrammarRow : OpenClaim := { program := "qxb6603798a", sum := "f543c929bceb21725bed348bc1882d8a536b8859241b4252ca2318687f76b883", func := "example.com/gravamen/gravamen/zzlaws_root_b1.FnLocateMatchesGrammar", spec := "fnLocateMatchesGrammar", inPlace := ["internal/bytealg.IndexByteString"], recurses := true, apart := false }
def FnLocateMatchesGrammarSaid : Prop := fnLocateMatchesGrammarRow.holds Try.pinned (OpenSpec.ofChange fnLocateMatchesGrammarSpec)

/-- ITS FALSE NEIGHBOUR: 'it returns false'. Refute it at one input. -/
def fnLocateMatchesGrammarWrong : ChangeSpec := { name := "fnLocateMatchesGrammar", fn := fun _ => fun
  | [d1, d2] => { results := [.lit (.bool false)], args := [d1, d2] }
  | _ => none }
def FnLocateMatchesGrammarWrongFalsely : Prop := fnLocateMatchesGrammarRow.holds Try.pinned (OpenSpec.ofChange fnLocateMatchesGrammarWrong)

end Rows
end Go.Proofs.Qxb6603798a
