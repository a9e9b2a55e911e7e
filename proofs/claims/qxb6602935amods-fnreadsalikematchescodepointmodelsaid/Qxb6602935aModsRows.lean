/-
  No cell of these rows narrows 'for every input' (looked for: loops, veiled, ifaces, maps, wideKeys, modest, calm, conditions, laid).
  DERIVED. THE GIVEN ROWS OF THIS SEAT. 5 by the template 'for every input the law returns true; each argument reads behind the call as it read before'; 0 by the template 'total and deterministic' (their statements: Qxb6602935aModsTotals.lean).
  GIVEN WITH THE SEED: the statements are not yours to turn. If you find one false, say at which input.
  Laid BY PROGRAM, IN A SANDBOX (cutbox-rows.mjs): the forced cells as the released guide's own fill.sh prints them over the translation 71bfc062bd1df32a… (all of the seat's roots in one cut). By AI agents, Wed Nov 11 2026. No macro, syntax, notation, axiom, sorry.
-/
import Derived.Test.Qxb6602935aModsChecked
import GoSem.Claim
import GoSem.ClaimJoined
import GoSem.ClaimMapViews
import Derived.JoinedTies
import Derived.KernelRfl
namespace Go.Proofs.Qxb6602935aMods
/- THE CELL 'sum', in the pinned program and in every row, IS THE sha256 OF THE DUMP (.gsa) THAT Qxb6602935aModsProg.lean LOADS. Nothing in Lean hashes anything: it is a label: what it is worth is what the hold of that sum in a sandbox is worth. -/
noncomputable def Trym.pinned : Pinned := { name := "qxb6602935amods", sum := "71bfc062bd1df32ae16fb8778361b0d41ee7504e1a50103dae1b127bc3b762a8", checked := Trym.checked }
namespace Rows
def none {H : Type} : Left H := { results := [], args := [] }

/-- 'zzlaws_internal_manifest_b1.FnIsJSONAtomAgreesWithAutomaton': WHATEVER THE INPUT: true; the input reads as it did. -/
def fnIsJSONAtomAgreesWithAutomatonSpec : ChangeSpec := { name := "fnIsJSONAtomAgreesWithAutomaton", fn := fun _ => fun
  | [d] => { results := [.lit (.bool true)], args := [d] }
  | _ => none }
def fnIsJSONAtomAgreesWithAutomatonRow : OpenClaim := { program := "qxb6602935amods", sum := "71bfc062bd1df32ae16fb8778361b0d41ee7504e1a50103dae1b127bc3b762a8", func := "example.com/ripener/ripener/zzlaws_internal_manifest_b1.FnIsJSONAtomAgreesWithAutomaton", spec := "fnIsJSONAtomAgreesWithAutomaton", make := .lifted ["publicsums"], apart := false }
def FnIsJSONAtomAgreesWithAutomatonSaid : Prop := fnIsJSONAtomAgreesWithAutomatonRow.holds Trym.pinned (OpenSpec.ofChange fnIsJSONAtomAgreesWithAutomatonSpec)

/-- ITS FALSE NEIGHBOUR: 'it returns false'. Refute it at one input. -/
def fnIsJSONAtomAgreesWithAutomatonWrong : ChangeSpec := { name := "fnIsJSONAtomAgreesWithAutomaton", fn := fun _ => fun
  | [d] => { results := [.lit (.bool false)], args := [d] }
  | _ => none }
def FnIsJSONAtomAgreesWithAutomatonWrongFalsely : Prop := fnIsJSONAtomAgreesWithAutomatonRow.holds Trym.pinned (OpenSpec.ofChange fnIsJSONAtomAgreesWithAutomatonWrong)

/-- 'zzlaws_internal_manifest_b1.FnIsJSONAtomUnderAMinusSign': WHATEVER THE INPUT: true; the input reads as it did. -/
def fnIsJSONAtomUnderAMinusSignSpec : ChangeSpec := { name := "fnIsJSONAtomUnderAMinusSign", fn := fun _ => fun
  | [d] => { results := [.lit (.bool true)], args := [d] }
  | _ => none }
def fnIsJSONAtomUnderAMinusSignRow : OpenClaim := { program := "qxb6602935amods", sum := "71bfc062bd1df32ae16fb8778361b0d41ee7504e1a50103dae1b127bc3b762a8", func := "example.com/ripener/ripener/zzlaws_internal_manifest_b1.FnIsJSONAtomUnderAMinusSign", spec := "fnIsJSONAtomUnderAMinusSign", make := .lifted ["publicsums"], apart := false }
def FnIsJSONAtomUnderAMinusSignSaid : Prop := fnIsJSONAtomUnderAMinusSignRow.holds Trym.pinned (OpenSpec.ofChange fnIsJSONAtomUnderAMinusSignSpec)

/-- ITS FALSE NEIGHBOUR: 'it returns false'. Refute it at one input. -/
def fnIsJSONAtomUnderAMinusSignWrong : ChangeSpec := { name := "fnIsJSONAtomUnderAMinusSign", fn := fun _ => fun
  | [d] => { results := [.lit (.bool false)], args := [d] }
  | _ => none }
def FnIsJSONAtomUnderAMinusSignWrongFalsely : Prop := fnIsJSONAtomUnderAMinusSignRow.holds Trym.pinned (OpenSpec.ofChange fnIsJSONAtomUnderAMinusSignWrong)

/-- 'zzlaws_internal_manifest_b1.FnIsJSONAtomTakesOneMoreByte': WHATEVER THE INPUT: true; the input reads as it did. -/
def fnIsJSONAtomTakesOneMoreByteSpec : ChangeSpec := { name := "fnIsJSONAtomTakesOneMoreByte", fn := fun _ => fun
  | [d1, d2] => { results := [.lit (.bool true)], args := [d1, d2] }
  | _ => none }
def fnIsJSONAtomTakesOneMoreByteRow : OpenClaim := { program := "qxb6602935amods", sum := "71bfc062bd1df32ae16fb8778361b0d41ee7504e1a50103dae1b127bc3b762a8", func := "example.com/ripener/ripener/zzlaws_internal_manifest_b1.FnIsJSONAtomTakesOneMoreByte", spec := "fnIsJSONAtomTakesOneMoreByte", make := .lifted ["publicsums"], apart := false }
def FnIsJSONAtomTakesOneMoreByteSaid : Prop := fnIsJSONAtomTakesOneMoreByteRow.holds Trym.pinned (OpenSpec.ofChange fnIsJSONAtomTakesOneMoreByteSpec)

/-- ITS FALSE NEIGHBOUR: 'it returns false'. Refute it at one input. -/
def fnIsJSONAtomTakesOneMoreByteWrong : ChangeSpec := { name := "fnIsJSONAtomTakesOneMoreByte", fn := fun _ => fun
  | [d1, d2] => { results := [.lit (.bool false)], args := [d1, d2] }
  | _ => none }
def FnIsJSONAtomTakesOneMoreByteWrongFalsely : Prop := fnIsJSONAtomTakesOneMoreByteRow.holds Trym.pinned (OpenSpec.ofChange fnIsJSONAtomTakesOneMoreByteWrong)

/-- 'zzlaws_internal_manifest_b1.FnReadsAlikeMatchesCodePointModel': WHATEVER THE INPUT: true; the input reads as it did. -/
def fnReadsAlikeMatchesCodePointModelSpec : ChangeSpec := { name := "fnReadsAlikeMatchesCodePointModel", fn := fun _ => fun
  | [d] => { results := [.lit (.bool true)], args := [d] }
  | _ => none }
def fnReadsAlikeMatchesCodePointModelRow : OpenClaim := { program := "qxb6602935amods", sum := "71bfc062bd1df32ae16fb8778361b0d41ee7504e1a50103dae1b127bc3b762a8", func := "example.com/ripener/ripener/zzlaws_internal_manifest_b1.FnReadsAlikeMatchesCodePointModel", spec := "fnReadsAlikeMatchesCodePointModel", make := .lifted ["publicsums"], apart := false }
def FnReadsAlikeMatchesCodePointModelSaid : Prop := fnReadsAlikeMatchesCodePointModelRow.holds Trym.pinned (OpenSpec.ofChange fnReadsAlikeMatchesCodePointModelSpec)

/-- ITS FALSE NEIGHBOUR: 'it returns false'. Refute it at one input. -/
def fnReadsAlikeMatchesCodePointModelWrong : ChangeSpec := { name := "fnReadsAlikeMatchesCodePointModel", fn := fun _ => fun
  | [d] => { results := [.lit (.bool false)], args := [d] }
  | _ => none }
def FnReadsAlikeMatchesCodePointModelWrongFalsely : Prop := fnReadsAlikeMatchesCodePointModelRow.holds Trym.pinned (OpenSpec.ofChange fnReadsAlikeMatchesCodePointModelWrong)

/-- 'zzlaws_internal_manifest_b1.FnReadsAlikeOfAConcatenation': WHATEVER THE INPUT: true; the input reads as it did. -/
def fnReadsAlikeOfAConcatenationSpec : ChangeSpec := { name := "fnReadsAlikeOfAConcatenation", fn := fun _ => fun
  | [d1, d2] => { results := [.lit (.bool true)], args := [d1, d2] }
  | _ => none }
def fnReadsAlikeOfAConcatenationRow : OpenClaim := { program := "qxb6602935amods", sum := "71bfc062bd1df32ae16fb8778361b0d41ee7504e1a50103dae1b127bc3b762a8", func := "example.com/ripener/ripener/zzlaws_internal_manifest_b1.FnReadsAlikeOfAConcatenation", spec := "fnReadsAlikeOfAConcatenation", make := .lifted ["publicsums"], apart := false }
def FnReadsAlikeOfAConcatenationSaid : Prop := fnReadsAlikeOfAConcatenationRow.holds Trym.pinned (OpenSpec.ofChange fnReadsAlikeOfAConcatenationSpec)

/-- ITS FALSE NEIGHBOUR: 'it returns false'. Refute it at one input. -/
def fnReadsAlikeOfAConcatenationWrong : ChangeSpec := { name := "fnReadsAlikeOfAConcatenation", fn := fun _ => fun
  | [d1, d2] => { results := [.lit (.bool false)], args := [d1, d2] }
  | _ => none }
def FnReadsAlikeOfAConcatenationWrongFalsely : Prop := fnReadsAlikeOfAConcatenationRow.holds Trym.pinned (OpenSpec.ofChange fnReadsAlikeOfAConcatenationWrong)

end Rows
end Go.Proofs.Qxb6602935aMods
