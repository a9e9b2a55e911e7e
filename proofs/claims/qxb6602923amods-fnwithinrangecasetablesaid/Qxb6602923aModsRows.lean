/-
  No cell of these rows narrows 'for every input' (looked for: loops, veiled, ifaces, maps, wideKeys, modest, calm, conditions, laid).
  DERIVED. THE GIVEN ROWS OF THIS SEAT. 2 by the template 'for every input the law returns true; each argument reads behind the call as it read before'; 0 by the template 'total and deterministic' (their statements: Qxb6602923aModsTotals.lean).
  GIVEN WITH THE SEED: the statements are not yours to turn. If you find one false, say at which input.
  Laid BY PROGRAM, IN A SANDBOX (cutbox-rows.mjs): the forced cells as the released guide's own fill.sh prints them over the translation 50656c5d1991d7b1… (all of the seat's roots in one cut). By AI agents, Wed Nov 11 2026. No macro, syntax, notation, axiom, sorry.
-/
import Derived.Test.Qxb6602923aModsChecked
import GoSem.Claim
import GoSem.ClaimJoined
import GoSem.ClaimMapViews
import Derived.JoinedTies
import Derived.KernelRfl
namespace Go.Proofs.Qxb6602923aMods
/- THE CELL 'sum', in the pinned program and in every row, IS THE sha256 OF THE DUMP (.gsa) THAT Qxb6602923aModsProg.lean LOADS. Nothing in Lean hashes anything: it is a label: what it is worth is what the hold of that sum in a sandbox is worth. -/
noncomputable def Trym.pinned : Pinned := { name := "qxb6602923amods", sum := "50656c5d1991d7b183037ea7ec80ad2b085bb1b579a0749a0d3240b90cf52844", checked := Trym.checked }
namespace Rows
def none {H : Type} : Left H := { results := [], args := [] }

/-- 'zzlaws_internal_engine_b1.FnWithinRangeCaseTable': WHATEVER THE INPUT: true; the input reads as it did. -/
def fnWithinRangeCaseTableSpec : ChangeSpec := { name := "fnWithinRangeCaseTable", fn := fun _ => fun
  | [d1, d2, d3] => { results := [.lit (.bool true)], args := [d1, d2, d3] }
  | _ => none }
def fnWithinRangeCaseTableRow : OpenClaim := { program := "qxb6602923amods", sum := "50656c5d1991d7b183037ea7ec80ad2b085bb1b579a0749a0d3240b90cf52844", func := "example.com/ebbtide/ebbtide/zzlaws_internal_engine_b1.FnWithinRangeCaseTable", spec := "fnWithinRangeCaseTable", make := .lifted ["publicsums"], apart := false }
def FnWithinRangeCaseTableSaid : Prop := fnWithinRangeCaseTableRow.holds Trym.pinned (OpenSpec.ofChange fnWithinRangeCaseTableSpec)

/-- ITS FALSE NEIGHBOUR: 'it returns false'. Refute it at one input. -/
def fnWithinRangeCaseTableWrong : ChangeSpec := { name := "fnWithinRangeCaseTable", fn := fun _ => fun
  | [d1, d2, d3] => { results := [.lit (.bool false)], args := [d1, d2, d3] }
  | _ => none }
def FnWithinRangeCaseTableWrongFalsely : Prop := fnWithinRangeCaseTableRow.holds Trym.pinned (OpenSpec.ofChange fnWithinRangeCaseTableWrong)

/-- 'zzlaws_internal_engine_b1.FnWithinRangeIdempotentMonotone': WHATEVER THE INPUT: true; the input reads as it did. -/
def fnWithinRangeIdempotentMonotoneSpec : ChangeSpec := { name := "fnWithinRangeIdempotentMonotone", fn := fun _ => fun
  | [d1, d2, d3, d4] => { results := [.lit (.bool true)], args := [d1, d2, d3, d4] }
  | _ => none }
def fnWithinRangeIdempotentMonotoneRow : OpenClaim := { program := "qxb6602923amods", sum := "50656c5d1991d7b183037ea7ec80ad2b085bb1b579a0749a0d3240b90cf52844", func := "example.com/ebbtide/ebbtide/zzlaws_internal_engine_b1.FnWithinRangeIdempotentMonotone", spec := "fnWithinRangeIdempotentMonotone", make := .lifted ["publicsums"], apart := false }
def FnWithinRangeIdempotentMonotoneSaid : Prop := fnWithinRangeIdempotentMonotoneRow.holds Trym.pinned (OpenSpec.ofChange fnWithinRangeIdempotentMonotoneSpec)

/-- ITS FALSE NEIGHBOUR: 'it returns false'. Refute it at one input. -/
def fnWithinRangeIdempotentMonotoneWrong : ChangeSpec := { name := "fnWithinRangeIdempotentMonotone", fn := fun _ => fun
  | [d1, d2, d3, d4] => { results := [.lit (.bool false)], args := [d1, d2, d3, d4] }
  | _ => none }
def FnWithinRangeIdempotentMonotoneWrongFalsely : Prop := fnWithinRangeIdempotentMonotoneRow.holds Trym.pinned (OpenSpec.ofChange fnWithinRangeIdempotentMonotoneWrong)

end Rows
end Go.Proofs.Qxb6602923aMods
