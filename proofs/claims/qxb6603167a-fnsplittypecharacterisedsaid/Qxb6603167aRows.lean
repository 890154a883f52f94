/-
  No cell of these rows narrows 'for every input' (looked for: loops, veiled, ifaces, maps, wideKeys, modest, calm, conditions, laid).
  DERIVED. THE GIVEN ROWS OF THIS SEAT. 2 by the template 'for every input the law returns true; each argument reads behind the call as it read before'; 0 by the template 'total and deterministic' (their statements: Qxb6603167aTotals.lean).
  GIVEN WITH THE SEED: the statements are not yours to turn. If you find one false, say at which input.
  Laid BY PROGRAM, IN A SANDBOX (cutbox-rows.mjs): the forced cells as the released guide's own fill.sh prints them over the translation 0f48bad1519e1205… (all of the seat's roots in one cut). By AI agents, Wed Nov 11 2026. No macro, syntax, notation, axiom, sorry.
-/
import Derived.Test.Qxb6603167aChecked
import GoSem.Claim
import GoSem.ClaimJoined
import GoSem.ClaimMapViews
import Derived.JoinedTies
import Derived.KernelRfl
namespace Go.Proofs.Qxb6603167a
/- THE CELL 'sum', in the pinned program and in every row, IS THE sha256 OF THE DUMP (.gsa) THAT Qxb6603167aProg.lean LOADS. Nothing in Lean hashes anything: it is a label: what it is worth is what the hold of that sum in a sandbox is worth. -/
noncomputable def Try.pinned : Pinned := { name := "qxb6603167a", sum := "0f48bad1519e120588d6d3abd584bc31bc152943855d11e8fbfe9b3976500032", checked := Try.checked }
namespace Rows
def none {H : Type} : Left H := { results := [], args := [] }

/-- 'zzlaws_resource_b1.FnSplitTypeCharacterised': WHATEVER THE INPUT: true; the input reads as it did. -/
def fnSplitTypeCharacterisedSpec : ChangeSpec := { name := "fnSplitTypeCharacterised", fn := fun _ => fun
  | [d] => { results := [.lit (.bool true)], args := [d] }
  | _ => none }
def fnSplitTypeCharacterisedRow : OpenClaim := { program := "qxb6603167a", sum := "0f48bad1519e120588d6d3abd584bc31bc152943855d11e8fbfe9b3976500032", func := "example.com/stepgraph/stepgraph/zzlaws_resource_b1.FnSplitTypeCharacterised", spec := "fnSplitTypeCharacterised", inPlace := ["internal/bytealg.IndexByteString", "internal/bytealg.IndexString"], named := ["internal/bytealg.MaxLen"], apart := false }
def FnSplitTypeCharacterisedSaid : Prop := fnSplitTypeCharacterisedRow.holds Try.pinned (OpenSpec.ofChange fnSplitTypeCharacterisedSpec)

/-- ITS FALSE NEIGHBOUR: 'it returns false'. Refute it at one input. -/
def fnSplitTypeCharacterisedWrong : ChangeSpec := { name := "fnSplitTypeCharacterised", fn := fun _ => fun
  | [d] => { results := [.lit (.bool false)], args := [d] }
  | _ => none }
def FnSplitTypeCharacterisedWrongFalsely : Prop := fnSplitTypeCharacterisedRow.holds Try.pinned (OpenSpec.ofChange fnSplitTypeCharacterisedWrong)

/-- 'zzlaws_resource_b1.FnSplitTypeInvertsJoin': WHATEVER THE INPUT: true; the input reads as it did. -/
def fnSplitTypeInvertsJoinSpec : ChangeSpec := { name := "fnSplitTypeInvertsJoin", fn := fun _ => fun
  | [d1, d2] => { results := [.lit (.bool true)], args := [d1, d2] }
  | _ => none }
def fnSplitTypeInvertsJoinRow : OpenClaim := { program := "qxb6603167a", sum := "0f48bad1519e120588d6d3abd584bc31bc152943855d11e8fbfe9b3976500032", func := "example.com/stepgraph/stepgraph/zzlaws_resource_b1.FnSplitTypeInvertsJoin", spec := "fnSplitTypeInvertsJoin", inPlace := ["internal/bytealg.IndexByteString", "internal/bytealg.IndexString"], named := ["internal/bytealg.MaxLen"], apart := false }
def FnSplitTypeInvertsJoinSaid : Prop := fnSplitTypeInvertsJoinRow.holds Try.pinned (OpenSpec.ofChange fnSplitTypeInvertsJoinSpec)

/-- ITS FALSE NEIGHBOUR: 'it returns false'. Refute it at one input. -/
def fnSplitTypeInvertsJoinWrong : ChangeSpec := { name := "fnSplitTypeInvertsJoin", fn := fun _ => fun
  | [d1, d2] => { results := [.lit (.bool false)], args := [d1, d2] }
  | _ => none }
def FnSplitTypeInvertsJoinWrongFalsely : Prop := fnSplitTypeInvertsJoinRow.holds Try.pinned (OpenSpec.ofChange fnSplitTypeInvertsJoinWrong)

end Rows
end Go.Proofs.Qxb6603167a
