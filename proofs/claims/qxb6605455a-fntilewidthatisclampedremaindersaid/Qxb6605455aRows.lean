/-
  No cell of these rows narrows 'for every input' (looked for: loops, veiled, ifaces, maps, wideKeys, modest, calm, conditions, laid).
  DERIVED. THE GIVEN ROWS OF THIS SEAT. 5 by the template 'for every input the law returns true; each argument reads behind the call as it read before'; 0 by the template 'total and deterministic' (their statements: Qxb6605455aTotals.lean).
  GIVEN WITH THE SEED: the statements are not yours to turn. If you find one false, say at which input.
  Laid BY PROGRAM, IN A SANDBOX (cutbox-rows.mjs): the forced cells as the released guide's own fill.sh prints them over the translation e20cca721a472465… (all of the seat's roots in one cut). By AI agents, Wed Nov 11 2026. No macro, syntax, notation, axiom, sorry.
-/
import Derived.Test.Qxb6605455aChecked
import GoSem.Claim
import GoSem.ClaimJoined
import GoSem.ClaimMapViews
import Derived.JoinedTies
import Derived.KernelRfl
namespace Go.Proofs.Qxb6605455a
/- THE CELL 'sum', in the pinned program and in every row, IS THE sha256 OF THE DUMP (.gsa) THAT Qxb6605455aProg.lean LOADS. Nothing in Lean hashes anything: it is a label: what it is worth is what the hold of that sum in a sandbox is worth. -/
noncomputable def Try.pinned : Pinned := { name := "qxb6605455a", sum := "e20cca721a4724659e68c99fdf764983236884e870fcf8e9e32889cc0f4b9c0d", checked := Try.checked }
namespace Rows
def none {H : Type} : Left H := { results := [], args := [] }

/-- 'zzlaws_root_b1.FnTileWidthAtIsClampedRemainder': WHATEVER THE INPUT: true; the input reads as it did. -/
def fnTileWidthAtIsClampedRemainderSpec : ChangeSpec := { name := "fnTileWidthAtIsClampedRemainder", fn := fun _ => fun
  | [d1, d2, d3] => { results := [.lit (.bool true)], args := [d1, d2, d3] }
  | _ => none }
def fnTileWidthAtIsClampedRemainderRow : OpenClaim := { program := "qxb6605455a", sum := "e20cca721a4724659e68c99fdf764983236884e870fcf8e9e32889cc0f4b9c0d", func := "example.com/attestree/attestree/zzlaws_root_b1.FnTileWidthAtIsClampedRemainder", spec := "fnTileWidthAtIsClampedRemainder", apart := false }
def FnTileWidthAtIsClampedRemainderSaid : Prop := fnTileWidthAtIsClampedRemainderRow.holds Try.pinned (OpenSpec.ofChange fnTileWidthAtIsClampedRemainderSpec)

/-- ITS FALSE NEIGHBOUR: 'it returns false'. Refute it at one input. -/
def fnTileWidthAtIsClampedRemainderWrong : ChangeSpec := { name := "fnTileWidthAtIsClampedRemainder", fn := fun _ => fun
  | [d1, d2, d3] => { results := [.lit (.bool false)], args := [d1, d2, d3] }
  | _ => none }
def FnTileWidthAtIsClampedRemainderWrongFalsely : Prop := fnTileWidthAtIsClampedRemainderRow.holds Try.pinned (OpenSpec.ofChange fnTileWidthAtIsClampedRemainderWrong)

/-- 'zzlaws_root_b1.FnTileWidthAtFullTileIsAHashAbove': WHATEVER THE INPUT: true; the input reads as it did. -/
def fnTileWidthAtFullTileIsAHashAboveSpec : ChangeSpec := { name := "fnTileWidthAtFullTileIsAHashAbove", fn := fun _ => fun
  | [d1, d2, d3] => { results := [.lit (.bool true)], args := [d1, d2, d3] }
  | _ => none }
def fnTileWidthAtFullTileIsAHashAboveRow : OpenClaim := { program := "qxb6605455a", sum := "e20cca721a4724659e68c99fdf764983236884e870fcf8e9e32889cc0f4b9c0d", func := "example.com/attestree/attestree/zzlaws_root_b1.FnTileWidthAtFullTileIsAHashAbove", spec := "fnTileWidthAtFullTileIsAHashAbove", apart := false }
def FnTileWidthAtFullTileIsAHashAboveSaid : Prop := fnTileWidthAtFullTileIsAHashAboveRow.holds Try.pinned (OpenSpec.ofChange fnTileWidthAtFullTileIsAHashAboveSpec)

/-- ITS FALSE NEIGHBOUR: 'it returns false'. Refute it at one input. -/
def fnTileWidthAtFullTileIsAHashAboveWrong : ChangeSpec := { name := "fnTileWidthAtFullTileIsAHashAbove", fn := fun _ => fun
  | [d1, d2, d3] => { results := [.lit (.bool false)], args := [d1, d2, d3] }
  | _ => none }
def FnTileWidthAtFullTileIsAHashAboveWrongFalsely : Prop := fnTileWidthAtFullTileIsAHashAboveRow.holds Try.pinned (OpenSpec.ofChange fnTileWidthAtFullTileIsAHashAboveWrong)

/-- 'zzlaws_root_b1.FnTileLevelsIsBase256Digits': WHATEVER THE INPUT: true; the input reads as it did. -/
def fnTileLevelsIsBase256DigitsSpec : ChangeSpec := { name := "fnTileLevelsIsBase256Digits", fn := fun _ => fun
  | [d] => { results := [.lit (.bool true)], args := [d] }
  | _ => none }
def fnTileLevelsIsBase256DigitsRow : OpenClaim := { program := "qxb6605455a", sum := "e20cca721a4724659e68c99fdf764983236884e870fcf8e9e32889cc0f4b9c0d", func := "example.com/attestree/attestree/zzlaws_root_b1.FnTileLevelsIsBase256Digits", spec := "fnTileLevelsIsBase256Digits", apart := false }
def FnTileLevelsIsBase256DigitsSaid : Prop := fnTileLevelsIsBase256DigitsRow.holds Try.pinned (OpenSpec.ofChange fnTileLevelsIsBase256DigitsSpec)

/-- ITS FALSE NEIGHBOUR: 'it returns false'. Refute it at one input. -/
def fnTileLevelsIsBase256DigitsWrong : ChangeSpec := { name := "fnTileLevelsIsBase256Digits", fn := fun _ => fun
  | [d] => { results := [.lit (.bool false)], args := [d] }
  | _ => none }
def FnTileLevelsIsBase256DigitsWrongFalsely : Prop := fnTileLevelsIsBase256DigitsRow.holds Try.pinned (OpenSpec.ofChange fnTileLevelsIsBase256DigitsWrong)

/-- 'zzlaws_root_b1.FnTileLevelsGrowsByOneOnTileWidthTimes': WHATEVER THE INPUT: true; the input reads as it did. -/
def fnTileLevelsGrowsByOneOnTileWidthTimesSpec : ChangeSpec := { name := "fnTileLevelsGrowsByOneOnTileWidthTimes", fn := fun _ => fun
  | [d] => { results := [.lit (.bool true)], args := [d] }
  | _ => none }
def fnTileLevelsGrowsByOneOnTileWidthTimesRow : OpenClaim := { program := "qxb6605455a", sum := "e20cca721a4724659e68c99fdf764983236884e870fcf8e9e32889cc0f4b9c0d", func := "example.com/attestree/attestree/zzlaws_root_b1.FnTileLevelsGrowsByOneOnTileWidthTimes", spec := "fnTileLevelsGrowsByOneOnTileWidthTimes", apart := false }
def FnTileLevelsGrowsByOneOnTileWidthTimesSaid : Prop := fnTileLevelsGrowsByOneOnTileWidthTimesRow.holds Try.pinned (OpenSpec.ofChange fnTileLevelsGrowsByOneOnTileWidthTimesSpec)

/-- ITS FALSE NEIGHBOUR: 'it returns false'. Refute it at one input. -/
def fnTileLevelsGrowsByOneOnTileWidthTimesWrong : ChangeSpec := { name := "fnTileLevelsGrowsByOneOnTileWidthTimes", fn := fun _ => fun
  | [d] => { results := [.lit (.bool false)], args := [d] }
  | _ => none }
def FnTileLevelsGrowsByOneOnTileWidthTimesWrongFalsely : Prop := fnTileLevelsGrowsByOneOnTileWidthTimesRow.holds Try.pinned (OpenSpec.ofChange fnTileLevelsGrowsByOneOnTileWidthTimesWrong)

/-- 'zzlaws_root_b1.FnTileLevelsTopLevelHoldsAHash': WHATEVER THE INPUT: true; the input reads as it did. -/
def fnTileLevelsTopLevelHoldsAHashSpec : ChangeSpec := { name := "fnTileLevelsTopLevelHoldsAHash", fn := fun _ => fun
  | [d] => { results := [.lit (.bool true)], args := [d] }
  | _ => none }
def fnTileLevelsTopLevelHoldsAHashRow : OpenClaim := { program := "qxb6605455a", sum := "e20cca721a4724659e68c99fdf764983236884e870fcf8e9e32889cc0f4b9c0d", func := "example.com/attestree/attestree/zzlaws_root_b1.FnTileLevelsTopLevelHoldsAHash", spec := "fnTileLevelsTopLevelHoldsAHash", apart := false }
def FnTileLevelsTopLevelHoldsAHashSaid : Prop := fnTileLevelsTopLevelHoldsAHashRow.holds Try.pinned (OpenSpec.ofChange fnTileLevelsTopLevelHoldsAHashSpec)

/-- ITS FALSE NEIGHBOUR: 'it returns false'. Refute it at one input. -/
def fnTileLevelsTopLevelHoldsAHashWrong : ChangeSpec := { name := "fnTileLevelsTopLevelHoldsAHash", fn := fun _ => fun
  | [d] => { results := [.lit (.bool false)], args := [d] }
  | _ => none }
def FnTileLevelsTopLevelHoldsAHashWrongFalsely : Prop := fnTileLevelsTopLevelHoldsAHashRow.holds Try.pinned (OpenSpec.ofChange fnTileLevelsTopLevelHoldsAHashWrong)

end Rows
end Go.Proofs.Qxb6605455a
