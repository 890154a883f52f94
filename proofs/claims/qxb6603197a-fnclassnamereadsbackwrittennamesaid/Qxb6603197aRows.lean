/-
  No cell of these rows narrows 'for every input' (looked for: loops, veiled, ifaces, maps, wideKeys, modest, calm, conditions, laid).
  DERIVED. THE GIVEN ROWS OF THIS SEAT. 5 by the template 'for every input the law returns true; each argument reads behind the call as it read before'; 0 by the template 'total and deterministic' (their statements: Qxb6603197aTotals.lean).
  GIVEN WITH THE SEED: the statements are not yours to turn. If you find one false, say at which input.
  Laid BY PROGRAM, IN A SANDBOX (cutbox-rows.mjs): the forced cells as the released guide's own fill.sh prints them over the translation 3a0885987a9a0f6b… (all of the seat's roots in one cut). By AI agents, Wed Nov 11 2026. No macro, syntax, notation, axiom, sorry.
-/
import Derived.Test.Qxb6603197aChecked
import GoSem.Claim
import GoSem.ClaimJoined
import GoSem.ClaimMapViews
import Derived.JoinedTies
import Derived.KernelRfl
namespace Go.Proofs.Qxb6603197a
/- THE CELL 'sum', in the pinned program and in every row, IS THE sha256 OF THE DUMP (.gsa) THAT Qxb6603197aProg.lean LOADS. Nothing in Lean hashes anything: it is a label: what it is worth is what the hold of that sum in a sandbox is worth. -/
noncomputable def Try.pinned : Pinned := { name := "qxb6603197a", sum := "3a0885987a9a0f6bbd70041271e933f55b4d3d91113777423f8aa9e91e54ace0", checked := Try.checked }
namespace Rows
def none {H : Type} : Left H := { results := [], args := [] }

/-- 'zzlaws_internal_ignore_b1.FnTrimTrailingSpacesMatchesRightToLeftModel': WHATEVER THE INPUT: true; the input reads as it did. -/
def fnTrimTrailingSpacesMatchesRightToLeftModelSpec : ChangeSpec := { name := "fnTrimTrailingSpacesMatchesRightToLeftModel", fn := fun _ => fun
  | [d] => { results := [.lit (.bool true)], args := [d] }
  | _ => none }
def fnTrimTrailingSpacesMatchesRightToLeftModelRow : OpenClaim := { program := "qxb6603197a", sum := "3a0885987a9a0f6bbd70041271e933f55b4d3d91113777423f8aa9e91e54ace0", func := "example.com/stowage/stowage/zzlaws_internal_ignore_b1.FnTrimTrailingSpacesMatchesRightToLeftModel", spec := "fnTrimTrailingSpacesMatchesRightToLeftModel", apart := false }
def FnTrimTrailingSpacesMatchesRightToLeftModelSaid : Prop := fnTrimTrailingSpacesMatchesRightToLeftModelRow.holds Try.pinned (OpenSpec.ofChange fnTrimTrailingSpacesMatchesRightToLeftModelSpec)

/-- ITS FALSE NEIGHBOUR: 'it returns false'. Refute it at one input. -/
def fnTrimTrailingSpacesMatchesRightToLeftModelWrong : ChangeSpec := { name := "fnTrimTrailingSpacesMatchesRightToLeftModel", fn := fun _ => fun
  | [d] => { results := [.lit (.bool false)], args := [d] }
  | _ => none }
def FnTrimTrailingSpacesMatchesRightToLeftModelWrongFalsely : Prop := fnTrimTrailingSpacesMatchesRightToLeftModelRow.holds Try.pinned (OpenSpec.ofChange fnTrimTrailingSpacesMatchesRightToLeftModelWrong)

/-- 'zzlaws_internal_ignore_b1.FnTrimTrailingSpacesIdempotent': WHATEVER THE INPUT: true; the input reads as it did. -/
def fnTrimTrailingSpacesIdempotentSpec : ChangeSpec := { name := "fnTrimTrailingSpacesIdempotent", fn := fun _ => fun
  | [d] => { results := [.lit (.bool true)], args := [d] }
  | _ => none }
def fnTrimTrailingSpacesIdempotentRow : OpenClaim := { program := "qxb6603197a", sum := "3a0885987a9a0f6bbd70041271e933f55b4d3d91113777423f8aa9e91e54ace0", func := "example.com/stowage/stowage/zzlaws_internal_ignore_b1.FnTrimTrailingSpacesIdempotent", spec := "fnTrimTrailingSpacesIdempotent", apart := false }
def FnTrimTrailingSpacesIdempotentSaid : Prop := fnTrimTrailingSpacesIdempotentRow.holds Try.pinned (OpenSpec.ofChange fnTrimTrailingSpacesIdempotentSpec)

/-- ITS FALSE NEIGHBOUR: 'it returns false'. Refute it at one input. -/
def fnTrimTrailingSpacesIdempotentWrong : ChangeSpec := { name := "fnTrimTrailingSpacesIdempotent", fn := fun _ => fun
  | [d] => { results := [.lit (.bool false)], args := [d] }
  | _ => none }
def FnTrimTrailingSpacesIdempotentWrongFalsely : Prop := fnTrimTrailingSpacesIdempotentRow.holds Try.pinned (OpenSpec.ofChange fnTrimTrailingSpacesIdempotentWrong)

/-- 'zzlaws_internal_ignore_b1.FnTrimTrailingSpacesOrdinaryFirstByteStays': WHATEVER THE INPUT: true; the input reads as it did. -/
def fnTrimTrailingSpacesOrdinaryFirstByteStaysSpec : ChangeSpec := { name := "fnTrimTrailingSpacesOrdinaryFirstByteStays", fn := fun _ => fun
  | [d1, d2] => { results := [.lit (.bool true)], args := [d1, d2] }
  | _ => none }
def fnTrimTrailingSpacesOrdinaryFirstByteStaysRow : OpenClaim := { program := "qxb6603197a", sum := "3a0885987a9a0f6bbd70041271e933f55b4d3d91113777423f8aa9e91e54ace0", func := "example.com/stowage/stowage/zzlaws_internal_ignore_b1.FnTrimTrailingSpacesOrdinaryFirstByteStays", spec := "fnTrimTrailingSpacesOrdinaryFirstByteStays", apart := false }
def FnTrimTrailingSpacesOrdinaryFirstByteStaysSaid : Prop := fnTrimTrailingSpacesOrdinaryFirstByteStaysRow.holds Try.pinned (OpenSpec.ofChange fnTrimTrailingSpacesOrdinaryFirstByteStaysSpec)

/-- ITS FALSE NEIGHBOUR: 'it returns false'. Refute it at one input. -/
def fnTrimTrailingSpacesOrdinaryFirstByteStaysWrong : ChangeSpec := { name := "fnTrimTrailingSpacesOrdinaryFirstByteStays", fn := fun _ => fun
  | [d1, d2] => { results := [.lit (.bool false)], args := [d1, d2] }
  | _ => none }
def FnTrimTrailingSpacesOrdinaryFirstByteStaysWrongFalsely : Prop := fnTrimTrailingSpacesOrdinaryFirstByteStaysRow.holds Try.pinned (OpenSpec.ofChange fnTrimTrailingSpacesOrdinaryFirstByteStaysWrong)

/-- 'zzlaws_internal_ignore_b1.FnClassNameReadsBackWrittenName': WHATEVER THE INPUT: true; the input reads as it did. -/
def fnClassNameReadsBackWrittenNameSpec : ChangeSpec := { name := "fnClassNameReadsBackWrittenName", fn := fun _ => fun
  | [d1, d2] => { results := [.lit (.bool true)], args := [d1, d2] }
  | _ => none }
def fnClassNameReadsBackWrittenNameRow : OpenClaim := { program := "qxb6603197a", sum := "3a0885987a9a0f6bbd70041271e933f55b4d3d91113777423f8aa9e91e54ace0", func := "example.com/stowage/stowage/zzlaws_internal_ignore_b1.FnClassNameReadsBackWrittenName", spec := "fnClassNameReadsBackWrittenName", inPlace := ["internal/bytealg.IndexByteString", "internal/bytealg.IndexString"], named := ["internal/bytealg.MaxLen"], apart := false }
def FnClassNameReadsBackWrittenNameSaid : Prop := fnClassNameReadsBackWrittenNameRow.holds Try.pinned (OpenSpec.ofChange fnClassNameReadsBackWrittenNameSpec)

/-- ITS FALSE NEIGHBOUR: 'it returns false'. Refute it at one input. -/
def fnClassNameReadsBackWrittenNameWrong : ChangeSpec := { name := "fnClassNameReadsBackWrittenName", fn := fun _ => fun
  | [d1, d2] => { results := [.lit (.bool false)], args := [d1, d2] }
  | _ => none }
def FnClassNameReadsBackWrittenNameWrongFalsely : Prop := fnClassNameReadsBackWrittenNameRow.holds Try.pinned (OpenSpec.ofChange fnClassNameReadsBackWrittenNameWrong)

/-- 'zzlaws_internal_ignore_b1.FnClassNameIgnoresWhatFollows': WHATEVER THE INPUT: true; the input reads as it did. -/
def fnClassNameIgnoresWhatFollowsSpec : ChangeSpec := { name := "fnClassNameIgnoresWhatFollows", fn := fun _ => fun
  | [d1, d2] => { results := [.lit (.bool true)], args := [d1, d2] }
  | _ => none }
def fnClassNameIgnoresWhatFollowsRow : OpenClaim := { program := "qxb6603197a", sum := "3a0885987a9a0f6bbd70041271e933f55b4d3d91113777423f8aa9e91e54ace0", func := "example.com/stowage/stowage/zzlaws_internal_ignore_b1.FnClassNameIgnoresWhatFollows", spec := "fnClassNameIgnoresWhatFollows", inPlace := ["internal/bytealg.IndexByteString", "internal/bytealg.IndexString"], named := ["internal/bytealg.MaxLen"], apart := false }
def FnClassNameIgnoresWhatFollowsSaid : Prop := fnClassNameIgnoresWhatFollowsRow.holds Try.pinned (OpenSpec.ofChange fnClassNameIgnoresWhatFollowsSpec)

/-- ITS FALSE NEIGHBOUR: 'it returns false'. Refute it at one input. -/
def fnClassNameIgnoresWhatFollowsWrong : ChangeSpec := { name := "fnClassNameIgnoresWhatFollows", fn := fun _ => fun
  | [d1, d2] => { results := [.lit (.bool false)], args := [d1, d2] }
  | _ => none }
def FnClassNameIgnoresWhatFollowsWrongFalsely : Prop := fnClassNameIgnoresWhatFollowsRow.holds Try.pinned (OpenSpec.ofChange fnClassNameIgnoresWhatFollowsWrong)

end Rows
end Go.Proofs.Qxb6603197a
