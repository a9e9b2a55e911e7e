/-
  No cell of these rows narrows 'for every input' (looked for: loops, veiled, ifaces, maps, wideKeys, modest, calm, conditions, laid).
  DERIVED. THE GIVEN ROWS OF THIS SEAT. 2 by the template 'for every input the law returns true; each argument reads behind the call as it read before'; 0 by the template 'total and deterministic' (their statements: Qxb6603133aModsTotals.lean).
  GIVEN WITH THE SEED: the statements are not yours to turn. If you find one false, say at which input.
  Laid BY PROGRAM, IN A SANDBOX (cutbox-rows.mjs): the forced cells as the released guide's own fill.sh prints them over the translation 8e583883f50b6e81… (all of the seat's roots in one cut). By AI agents, Wed Nov 11 2026. No macro, syntax, notation, axiom, sorry.
-/
import Derived.Test.Qxb6603133aModsChecked
import GoSem.Claim
import GoSem.ClaimJoined
import GoSem.ClaimMapViews
import Derived.JoinedTies
import Derived.KernelRfl
namespace Go.Proofs.Qxb6603133aMods
/- THE CELL 'sum', in the pinned program and in every row, IS THE sha256 OF THE DUMP (.gsa) THAT Qxb6603133aModsProg.lean LOADS. Nothing in Lean hashes anything: it is a label: what it is worth is what the hold of that sum in a sandbox is worth. -/
noncomputable def Trym.pinned : Pinned := { name := "qxb6603133amods", sum := "8e583883f50b6e811595ab93c2a9951f356273c86c3d5a1c592ddeae35d2d378", checked := Trym.checked }
namespace Rows
def none {H : Type} : Left H := { results := [], args := [] }

/-- 'zzlaws_replication_b1.FnCodecLayoutRoundTrip': WHATEVER THE INPUT: true; the input reads as it did. -/
def fnCodecLayoutRoundTripSpec : ChangeSpec := { name := "fnCodecLayoutRoundTrip", fn := fun _ => fun
  | [d1, d2] => { results := [.lit (.bool true)], args := [d1, d2] }
  | _ => none }
def fnCodecLayoutRoundTripRow : OpenClaim := { program := "qxb6603133amods", sum := "8e583883f50b6e811595ab93c2a9951f356273c86c3d5a1c592ddeae35d2d378", func := "example.com/quorumlog/quorumlog/zzlaws_replication_b1.FnCodecLayoutRoundTrip", spec := "fnCodecLayoutRoundTrip", make := .lifted ["publicsums"], apart := false }
def FnCodecLayoutRoundTripSaid : Prop := fnCodecLayoutRoundTripRow.holds Trym.pinned (OpenSpec.ofChange fnCodecLayoutRoundTripSpec)

/-- ITS FALSE NEIGHBOUR: 'it returns false'. Refute it at one input. -/
def fnCodecLayoutRoundTripWrong : ChangeSpec := { name := "fnCodecLayoutRoundTrip", fn := fun _ => fun
  | [d1, d2] => { results := [.lit (.bool false)], args := [d1, d2] }
  | _ => none }
def FnCodecLayoutRoundTripWrongFalsely : Prop := fnCodecLayoutRoundTripRow.holds Trym.pinned (OpenSpec.ofChange fnCodecLayoutRoundTripWrong)

/-- 'zzlaws_replication_b1.FnCodecDecodeShortExactlyOnOverrun': WHATEVER THE INPUT: true; the input reads as it did. -/
def fnCodecDecodeShortExactlyOnOverrunSpec : ChangeSpec := { name := "fnCodecDecodeShortExactlyOnOverrun", fn := fun _ => fun
  | [d1, d2] => { results := [.lit (.bool true)], args := [d1, d2] }
  | _ => none }
def fnCodecDecodeShortExactlyOnOverrunRow : OpenClaim := { program := "qxb6603133amods", sum := "8e583883f50b6e811595ab93c2a9951f356273c86c3d5a1c592ddeae35d2d378", func := "example.com/quorumlog/quorumlog/zzlaws_replication_b1.FnCodecDecodeShortExactlyOnOverrun", spec := "fnCodecDecodeShortExactlyOnOverrun", make := .lifted ["publicsums"], apart := false }
def FnCodecDecodeShortExactlyOnOverrunSaid : Prop := fnCodecDecodeShortExactlyOnOverrunRow.holds Trym.pinned (OpenSpec.ofChange fnCodecDecodeShortExactlyOnOverrunSpec)

/-- ITS FALSE NEIGHBOUR: 'it returns false'. Refute it at one input. -/
def fnCodecDecodeShortExactlyOnOverrunWrong : ChangeSpec := { name := "fnCodecDecodeShortExactlyOnOverrun", fn := fun _ => fun
  | [d1, d2] => { results := [.lit (.bool false)], args := [d1, d2] }
  | _ => none }
def FnCodecDecodeShortExactlyOnOverrunWrongFalsely : Prop := fnCodecDecodeShortExactlyOnOverrunRow.holds Trym.pinned (OpenSpec.ofChange fnCodecDecodeShortExactlyOnOverrunWrong)

end Rows
end Go.Proofs.Qxb6603133aMods
