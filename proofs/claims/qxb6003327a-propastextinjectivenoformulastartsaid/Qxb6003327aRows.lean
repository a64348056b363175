/-
  No cell of these rows narrows 'for every input' (looked for: loops, veiled, ifaces, maps, wideKeys, modest, calm, conditions, laid).
  DERIVED. THE GIVEN ROWS OF THIS SEAT. 1 by the template 'for every input the law returns true; each argument reads behind the call as it read before'; 0 by the template 'total and deterministic' (their statements: Qxb6003327aTotals.lean).
  GIVEN WITH THE SEED: the statements are not yours to turn. If you find one false, say at which input.
  Laid BY PROGRAM, IN A SANDBOX (cutbox-rows.mjs): the forced cells as the released guide's own fill.sh prints them over the translation c0bded6ddebea2a8… (all of the seat's roots in one cut). By AI agents, Wed Nov 11 2026. No macro, syntax, notation, axiom, sorry.
-/
import Derived.Test.Qxb6003327aChecked
import GoSem.Claim
import GoSem.ClaimJoined
import GoSem.ClaimMapViews
import Derived.JoinedTies
import Derived.KernelRfl
namespace Go.Proofs.Qxb6003327a
/- THE CELL 'sum', in the pinned program and in every row, IS THE sha256 OF THE DUMP (.gsa) THAT Qxb6003327aProg.lean LOADS. Nothing in Lean hashes anything: it is a label: what it is worth is what the hold of that sum in a sandbox is worth. -/
noncomputable def Try.pinned : Pinned := { name := "qxb6003327a", sum := "c0bded6ddebea2a8c92310805ac443c189f3663d693f060e0dc3611c4fde0093", checked := Try.checked }
namespace Rows
def none {H : Type} : Left H := { results := [], args := [] }

/-- 'zzlaws_cmd_c1.PropAsTextInjectiveNoFormulaStart': WHATEVER THE INPUT: true; the input reads as it did. -/
def propAsTextInjectiveNoFormulaStartSpec : ChangeSpec := { name := "propAsTextInjectiveNoFormulaStart", fn := fun _ => fun
  | [d1, d2] => { results := [.lit (.bool true)], args := [d1, d2] }
  | _ => none }
def propAsTextInjectiveNoFormulaStartRow : OpenClaim := { program := "qxb6003327a", sum := "c0bded6ddebea2a8c92310805ac443c189f3663d693f060e0dc3611c4fde0093", func := "example.com/vestledger/vestledger/zzlaws_cmd_c1.PropAsTextInjectiveNoFormulaStart", spec := "propAsTextInjectiveNoFormulaStart", inPlace := ["internal/bytealg.IndexByteString"], apart := false }
def PropAsTextInjectiveNoFormulaStartSaid : Prop := propAsTextInjectiveNoFormulaStartRow.holds Try.pinned (OpenSpec.ofChange propAsTextInjectiveNoFormulaStartSpec)

/-- ITS FALSE NEIGHBOUR: 'it returns false'. Refute it at one input. -/
def propAsTextInjectiveNoFormulaStartWrong : ChangeSpec := { name := "propAsTextInjectiveNoFormulaStart", fn := fun _ => fun
  | [d1, d2] => { results := [.lit (.bool false)], args := [d1, d2] }
  | _ => none }
def PropAsTextInjectiveNoFormulaStartWrongFalsely : Prop := propAsTextInjectiveNoFormulaStartRow.holds Try.pinned (OpenSpec.ofChange propAsTextInjectiveNoFormulaStartWrong)

end Rows
end Go.Proofs.Qxb6003327a
