/-
  No cell of these rows narrows 'for every input' (looked for: loops, veiled, ifaces, maps, wideKeys, modest, calm, conditions, laid).
  DERIVED. THE GIVEN ROWS OF THIS SEAT. 3 by the template 'for every input the law returns true; each argument reads behind the call as it read before'; 0 by the template 'total and deterministic' (their statements: Qxb6605486aTotals.lean).
  GIVEN WITH THE SEED: the statements are not yours to turn. If you find one false, say at which input.
  Laid BY PROGRAM, IN A SANDBOX (cutbox-rows.mjs): the forced cells as the released guide's own fill.sh prints them over the translation 32a94e905b73353d… (all of the seat's roots in one cut). By AI agents, Wed Nov 11 2026. No macro, syntax, notation, axiom, sorry.
-/
import Derived.Test.Qxb6605486aChecked
import GoSem.Claim
import GoSem.ClaimJoined
import GoSem.ClaimMapViews
import Derived.JoinedTies
import Derived.KernelRfl
namespace Go.Proofs.Qxb6605486a
/- THE CELL 'sum', in the pinned program and in every row, IS THE sha256 OF THE DUMP (.gsa) THAT Qxb6605486aProg.lean LOADS. Nothing in Lean hashes anything: it is a label: what it is worth is what the hold of that sum in a sandbox is worth. -/
noncomputable def Try.pinned : Pinned := { name := "qxb6605486a", sum := "32a94e905b73353dd3a154dd4eaddff10c3290e82531aa493281d83927589afc", checked := Try.checked }
namespace Rows
def none {H : Type} : Left H := { results := [], args := [] }

/-- 'zzlaws_pkg_exposition_b1.FnAppendEscapedDecodesBack': WHATEVER THE INPUT: true; the input reads as it did. -/
def fnAppendEscapedDecodesBackSpec : ChangeSpec := { name := "fnAppendEscapedDecodesBack", fn := fun _ => fun
  | [d1, d2, d3] => { results := [.lit (.bool true)], args := [d1, d2, d3] }
  | _ => none }
def fnAppendEscapedDecodesBackRow : OpenClaim := { program := "qxb6605486a", sum := "32a94e905b73353dd3a154dd4eaddff10c3290e82531aa493281d83927589afc", func := "example.com/crosskey/crosskey/zzlaws_pkg_exposition_b1.FnAppendEscapedDecodesBack", spec := "fnAppendEscapedDecodesBack", apart := false }
def FnAppendEscapedDecodesBackSaid : Prop := fnAppendEscapedDecodesBackRow.holds Try.pinned (OpenSpec.ofChange fnAppendEscapedDecodesBackSpec)

/-- ITS FALSE NEIGHBOUR: 'it returns false'. Refute it at one input. -/
def fnAppendEscapedDecodesBackWrong : ChangeSpec := { name := "fnAppendEscapedDecodesBack", fn := fun _ => fun
  | [d1, d2, d3] => { results := [.lit (.bool false)], args := [d1, d2, d3] }
  | _ => none }
def FnAppendEscapedDecodesBackWrongFalsely : Prop := fnAppendEscapedDecodesBackRow.holds Try.pinned (OpenSpec.ofChange fnAppendEscapedDecodesBackWrong)

/-- 'zzlaws_pkg_exposition_b1.FnAppendEscapedStreams': WHATEVER THE INPUT: true; the input reads as it did. -/
def fnAppendEscapedStreamsSpec : ChangeSpec := { name := "fnAppendEscapedStreams", fn := fun _ => fun
  | [d1, d2, d3, d4] => { results := [.lit (.bool true)], args := [d1, d2, d3, d4] }
  | _ => none }
def fnAppendEscapedStreamsRow : OpenClaim := { program := "qxb6605486a", sum := "32a94e905b73353dd3a154dd4eaddff10c3290e82531aa493281d83927589afc", func := "example.com/crosskey/crosskey/zzlaws_pkg_exposition_b1.FnAppendEscapedStreams", spec := "fnAppendEscapedStreams", apart := false }
def FnAppendEscapedStreamsSaid : Prop := fnAppendEscapedStreamsRow.holds Try.pinned (OpenSpec.ofChange fnAppendEscapedStreamsSpec)

/-- ITS FALSE NEIGHBOUR: 'it returns false'. Refute it at one input. -/
def fnAppendEscapedStreamsWrong : ChangeSpec := { name := "fnAppendEscapedStreams", fn := fun _ => fun
  | [d1, d2, d3, d4] => { results := [.lit (.bool false)], args := [d1, d2, d3, d4] }
  | _ => none }
def FnAppendEscapedStreamsWrongFalsely : Prop := fnAppendEscapedStreamsRow.holds Try.pinned (OpenSpec.ofChange fnAppendEscapedStreamsWrong)

/-- 'zzlaws_pkg_exposition_b1.FnAppendSampleLineParses': WHATEVER THE INPUT: true; the input reads as it did. -/
def fnAppendSampleLineParsesSpec : ChangeSpec := { name := "fnAppendSampleLineParses", fn := fun _ => fun
  | [d1, d2, d3, d4, d5, d6, d7] => { results := [.lit (.bool true)], args := [d1, d2, d3, d4, d5, d6, d7] }
  | _ => none }
def fnAppendSampleLineParsesRow : OpenClaim := { program := "qxb6605486a", sum := "32a94e905b73353dd3a154dd4eaddff10c3290e82531aa493281d83927589afc", func := "example.com/crosskey/crosskey/zzlaws_pkg_exposition_b1.FnAppendSampleLineParses", spec := "fnAppendSampleLineParses", apart := false }
def FnAppendSampleLineParsesSaid : Prop := fnAppendSampleLineParsesRow.holds Try.pinned (OpenSpec.ofChange fnAppendSampleLineParsesSpec)

/-- ITS FALSE NEIGHBOUR: 'it returns false'. Refute it at one input. -/
def fnAppendSampleLineParsesWrong : ChangeSpec := { name := "fnAppendSampleLineParses", fn := fun _ => fun
  | [d1, d2, d3, d4, d5, d6, d7] => { results := [.lit (.bool false)], args := [d1, d2, d3, d4, d5, d6, d7] }
  | _ => none }
def FnAppendSampleLineParsesWrongFalsely : Prop := fnAppendSampleLineParsesRow.holds Try.pinned (OpenSpec.ofChange fnAppendSampleLineParsesWrong)

end Rows
end Go.Proofs.Qxb6605486a
