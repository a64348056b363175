/-
  No cell of these rows narrows 'for every input' (looked for: loops, veiled, ifaces, maps, wideKeys, modest, calm, conditions, laid).
  DERIVED. THE GIVEN ROWS OF THIS SEAT. 1 by the template 'for every input the law returns true; each argument reads behind the call as it read before'; 0 by the template 'total and deterministic' (their statements: Qxb6002405aTotals.lean).
  GIVEN WITH THE SEED: the statements are not yours to turn. If you find one false, say at which input.
  Laid BY PROGRAM, IN A SANDBOX (cutbox-rows.mjs): the forced cells as the released guide's own fill.sh prints them over the translation 34a643831da2feb8… (all of the seat's roots in one cut). By AI agents, Wed Nov 11 2026. No macro, syntax, notation, axiom, sorry.
-/
import Derived.Test.Qxb6002405aChecked
import GoSem.Claim
import GoSem.ClaimJoined
import GoSem.ClaimMapViews
import Derived.JoinedTies
import Derived.KernelRfl
namespace Go.Proofs.Qxb6002405a
/- THE CELL 'sum', in the pinned program and in every row, IS THE sha256 OF THE DUMP (.gsa) THAT Qxb6002405aProg.lean LOADS. Nothing in Lean hashes anything: it is a label: what it is worth is what the hold of that sum in a sandbox is worth. -/
noncomputable def Try.pinned : Pinned := { name := "qxb6002405a", sum := "34a643831da2feb8268dc9e8b92808051ada05ed3cdbc0554678fe2c5ddf1d0f", checked := Try.checked }
namespace Rows
def none {H : Type} : Left H := { results := [], args := [] }

/-- 'zzlaws_internal_http1_g1.FnRequestHostTouchesOnlyHost': WHATEVER THE INPUT: true; the input reads as it did. -/
def fnRequestHostTouchesOnlyHostSpec : ChangeSpec := { name := "fnRequestHostTouchesOnlyHost", fn := fun _ => fun
  | [d1, d2, d3, d4, d5, d6] => { results := [.lit (.bool true)], args := [d1, d2, d3, d4, d5, d6] }
  | _ => none }
def fnRequestHostTouchesOnlyHostRow : OpenClaim := { program := "qxb6002405a", sum := "34a643831da2feb8268dc9e8b92808051ada05ed3cdbc0554678fe2c5ddf1d0f", func := "example.com/tenure/tenure/zzlaws_internal_http1_g1.FnRequestHostTouchesOnlyHost", spec := "fnRequestHostTouchesOnlyHost", inPlace := ["internal/bytealg.IndexByteString", "internal/bytealg.IndexString"], named := ["internal/bytealg.MaxLen"], apart := false }
def FnRequestHostTouchesOnlyHostSaid : Prop := fnRequestHostTouchesOnlyHostRow.holds Try.pinned (OpenSpec.ofChange fnRequestHostTouchesOnlyHostSpec)

/-- ITS FALSE NEIGHBOUR: 'it returns false'. Refute it at one input. -/
def fnRequestHostTouchesOnlyHostWrong : ChangeSpec := { name := "fnRequestHostTouchesOnlyHost", fn := fun _ => fun
  | [d1, d2, d3, d4, d5, d6] => { results := [.lit (.bool false)], args := [d1, d2, d3, d4, d5, d6] }
  | _ => none }
def FnRequestHostTouchesOnlyHostWrongFalsely : Prop := fnRequestHostTouchesOnlyHostRow.holds Try.pinned (OpenSpec.ofChange fnRequestHostTouchesOnlyHostWrong)

end Rows
end Go.Proofs.Qxb6002405a
