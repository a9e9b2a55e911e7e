/-
  No cell of these rows narrows 'for every input' (looked for: loops, veiled, ifaces, maps, wideKeys, modest, calm, conditions, laid).
  DERIVED. THE GIVEN ROWS OF THIS SEAT. 7 by the template 'for every input the law returns true; each argument reads behind the call as it read before'; 0 by the template 'total and deterministic' (their statements: Qxb6603348aModsTotals.lean).
  GIVEN WITH THE SEED: the statements are not yours to turn. If you find one false, say at which input.
  Laid BY PROGRAM, IN A SANDBOX (cutbox-rows.mjs): the forced cells as the released guide's own fill.sh prints them over the translation 7c17a1f81fd46d56… (all of the seat's roots in one cut). By AI agents, Wed Nov 11 2026. No macro, syntax, notation, axiom, sorry.
-/
import Derived.Test.Qxb6603348aModsChecked
import GoSem.Claim
import GoSem.ClaimJoined
import GoSem.ClaimMapViews
import Derived.JoinedTies
import Derived.KernelRfl
namespace Go.Proofs.Qxb6603348aMods
/- THE CELL 'sum', in the pinned program and in every row, IS THE sha256 OF THE DUMP (.gsa) THAT Qxb6603348aModsProg.lean LOADS. Nothing in Lean hashes anything: it is a label: what it is worth is what the hold of that sum in a sandbox is worth. -/
noncomputable def Trym.pinned : Pinned := { name := "qxb6603348amods", sum := "7c17a1f81fd46d5671d2585d220034ba3d5da3e42169561ead7020560e8b0ec0", checked := Trym.checked }
namespace Rows
def none {H : Type} : Left H := { results := [], args := [] }

/-- 'zzlaws_internal_ledger_b1.FnFirstCharactersMatchesUTF8Model': WHATEVER THE INPUT: true; the input reads as it did. -/
def fnFirstCharactersMatchesUTF8ModelSpec : ChangeSpec := { name := "fnFirstCharactersMatchesUTF8Model", fn := fun _ => fun
  | [d1, d2] => { results := [.lit (.bool true)], args := [d1, d2] }
  | _ => none }
def fnFirstCharactersMatchesUTF8ModelRow : OpenClaim := { program := "qxb6603348amods", sum := "7c17a1f81fd46d5671d2585d220034ba3d5da3e42169561ead7020560e8b0ec0", func := "example.com/tenderboard/tenderboard/zzlaws_internal_ledger_b1.FnFirstCharactersMatchesUTF8Model", spec := "fnFirstCharactersMatchesUTF8Model", make := .lifted ["publicsums"], apart := false }
def FnFirstCharactersMatchesUTF8ModelSaid : Prop := fnFirstCharactersMatchesUTF8ModelRow.holds Trym.pinned (OpenSpec.ofChange fnFirstCharactersMatchesUTF8ModelSpec)

/-- ITS FALSE NEIGHBOUR: 'it returns false'. Refute it at one input. -/
def fnFirstCharactersMatchesUTF8ModelWrong : ChangeSpec := { name := "fnFirstCharactersMatchesUTF8Model", fn := fun _ => fun
  | [d1, d2] => { results := [.lit (.bool false)], args := [d1, d2] }
  | _ => none }
def FnFirstCharactersMatchesUTF8ModelWrongFalsely : Prop := fnFirstCharactersMatchesUTF8ModelRow.holds Trym.pinned (OpenSpec.ofChange fnFirstCharactersMatchesUTF8ModelWrong)

/-- 'zzlaws_internal_ledger_b1.FnFirstCharactersCutAgainCutsNothing': WHATEVER THE INPUT: true; the input reads as it did. -/
def fnFirstCharactersCutAgainCutsNothingSpec : ChangeSpec := { name := "fnFirstCharactersCutAgainCutsNothing", fn := fun _ => fun
  | [d1, d2] => { results := [.lit (.bool true)], args := [d1, d2] }
  | _ => none }
def fnFirstCharactersCutAgainCutsNothingRow : OpenClaim := { program := "qxb6603348amods", sum := "7c17a1f81fd46d5671d2585d220034ba3d5da3e42169561ead7020560e8b0ec0", func := "example.com/tenderboard/tenderboard/zzlaws_internal_ledger_b1.FnFirstCharactersCutAgainCutsNothing", spec := "fnFirstCharactersCutAgainCutsNothing", make := .lifted ["publicsums"], apart := false }
def FnFirstCharactersCutAgainCutsNothingSaid : Prop := fnFirstCharactersCutAgainCutsNothingRow.holds Trym.pinned (OpenSpec.ofChange fnFirstCharactersCutAgainCutsNothingSpec)

/-- ITS FALSE NEIGHBOUR: 'it returns false'. Refute it at one input. -/
def fnFirstCharactersCutAgainCutsNothingWrong : ChangeSpec := { name := "fnFirstCharactersCutAgainCutsNothing", fn := fun _ => fun
  | [d1, d2] => { results := [.lit (.bool false)], args := [d1, d2] }
  | _ => none }
def FnFirstCharactersCutAgainCutsNothingWrongFalsely : Prop := fnFirstCharactersCutAgainCutsNothingRow.holds Trym.pinned (OpenSpec.ofChange fnFirstCharactersCutAgainCutsNothingWrong)

/-- 'zzlaws_internal_ledger_b1.FnShortImageMatchesModel': WHATEVER THE INPUT: true; the input reads as it did. -/
def fnShortImageMatchesModelSpec : ChangeSpec := { name := "fnShortImageMatchesModel", fn := fun _ => fun
  | [d] => { results := [.lit (.bool true)], args := [d] }
  | _ => none }
def fnShortImageMatchesModelRow : OpenClaim := { program := "qxb6603348amods", sum := "7c17a1f81fd46d5671d2585d220034ba3d5da3e42169561ead7020560e8b0ec0", func := "example.com/tenderboard/tenderboard/zzlaws_internal_ledger_b1.FnShortImageMatchesModel", spec := "fnShortImageMatchesModel", inPlace := ["internal/bytealg.IndexByteString", "internal/bytealg.IndexString"], named := ["internal/bytealg.MaxLen"], make := .lifted ["publicsums"], apart := false }
def FnShortImageMatchesModelSaid : Prop := fnShortImageMatchesModelRow.holds Trym.pinned (OpenSpec.ofChange fnShortImageMatchesModelSpec)

/-- ITS FALSE NEIGHBOUR: 'it returns false'. Refute it at one input. -/
def fnShortImageMatchesModelWrong : ChangeSpec := { name := "fnShortImageMatchesModel", fn := fun _ => fun
  | [d] => { results := [.lit (.bool false)], args := [d] }
  | _ => none }
def FnShortImageMatchesModelWrongFalsely : Prop := fnShortImageMatchesModelRow.holds Trym.pinned (OpenSpec.ofChange fnShortImageMatchesModelWrong)

/-- 'zzlaws_internal_ledger_b1.FnShortImageIgnoresTheHashName': WHATEVER THE INPUT: true; the input reads as it did. -/
def fnShortImageIgnoresTheHashNameSpec : ChangeSpec := { name := "fnShortImageIgnoresTheHashName", fn := fun _ => fun
  | [d1, d2] => { results := [.lit (.bool true)], args := [d1, d2] }
  | _ => none }
def fnShortImageIgnoresTheHashNameRow : OpenClaim := { program := "qxb6603348amods", sum := "7c17a1f81fd46d5671d2585d220034ba3d5da3e42169561ead7020560e8b0ec0", func := "example.com/tenderboard/tenderboard/zzlaws_internal_ledger_b1.FnShortImageIgnoresTheHashName", spec := "fnShortImageIgnoresTheHashName", inPlace := ["internal/bytealg.IndexByteString", "internal/bytealg.IndexString"], named := ["internal/bytealg.MaxLen"], make := .lifted ["publicsums"], apart := false }
def FnShortImageIgnoresTheHashNameSaid : Prop := fnShortImageIgnoresTheHashNameRow.holds Trym.pinned (OpenSpec.ofChange fnShortImageIgnoresTheHashNameSpec)

/-- ITS FALSE NEIGHBOUR: 'it returns false'. Refute it at one input. -/
def fnShortImageIgnoresTheHashNameWrong : ChangeSpec := { name := "fnShortImageIgnoresTheHashName", fn := fun _ => fun
  | [d1, d2] => { results := [.lit (.bool false)], args := [d1, d2] }
  | _ => none }
def FnShortImageIgnoresTheHashNameWrongFalsely : Prop := fnShortImageIgnoresTheHashNameRow.holds Trym.pinned (OpenSpec.ofChange fnShortImageIgnoresTheHashNameWrong)

/-- 'zzlaws_internal_ledger_b1.FnFindMatchesSortedDistinctModel': WHATEVER THE INPUT: true; the input reads as it did. -/
def fnFindMatchesSortedDistinctModelSpec : ChangeSpec := { name := "fnFindMatchesSortedDistinctModel", fn := fun _ => fun
  | [d1, d2] => { results := [.lit (.bool true)], args := [d1, d2] }
  | _ => none }
def fnFindMatchesSortedDistinctModelRow : OpenClaim := { program := "qxb6603348amods", sum := "7c17a1f81fd46d5671d2585d220034ba3d5da3e42169561ead7020560e8b0ec0", func := "example.com/tenderboard/tenderboard/zzlaws_internal_ledger_b1.FnFindMatchesSortedDistinctModel", spec := "fnFindMatchesSortedDistinctModel", make := .lifted ["publicsums"], apart := false }
def FnFindMatchesSortedDistinctModelSaid : Prop := fnFindMatchesSortedDistinctModelRow.holds Trym.pinned (OpenSpec.ofChange fnFindMatchesSortedDistinctModelSpec)

/-- ITS FALSE NEIGHBOUR: 'it returns false'. Refute it at one input. -/
def fnFindMatchesSortedDistinctModelWrong : ChangeSpec := { name := "fnFindMatchesSortedDistinctModel", fn := fun _ => fun
  | [d1, d2] => { results := [.lit (.bool false)], args := [d1, d2] }
  | _ => none }
def FnFindMatchesSortedDistinctModelWrongFalsely : Prop := fnFindMatchesSortedDistinctModelRow.holds Trym.pinned (OpenSpec.ofChange fnFindMatchesSortedDistinctModelWrong)

/-- 'zzlaws_internal_ledger_b1.FnFindIgnoresOrderAndRepeats': WHATEVER THE INPUT: true; the input reads as it did. -/
def fnFindIgnoresOrderAndRepeatsSpec : ChangeSpec := { name := "fnFindIgnoresOrderAndRepeats", fn := fun _ => fun
  | [d1, d2] => { results := [.lit (.bool true)], args := [d1, d2] }
  | _ => none }
def fnFindIgnoresOrderAndRepeatsRow : OpenClaim := { program := "qxb6603348amods", sum := "7c17a1f81fd46d5671d2585d220034ba3d5da3e42169561ead7020560e8b0ec0", func := "example.com/tenderboard/tenderboard/zzlaws_internal_ledger_b1.FnFindIgnoresOrderAndRepeats", spec := "fnFindIgnoresOrderAndRepeats", make := .lifted ["publicsums"], apart := false }
def FnFindIgnoresOrderAndRepeatsSaid : Prop := fnFindIgnoresOrderAndRepeatsRow.holds Trym.pinned (OpenSpec.ofChange fnFindIgnoresOrderAndRepeatsSpec)

/-- ITS FALSE NEIGHBOUR: 'it returns false'. Refute it at one input. -/
def fnFindIgnoresOrderAndRepeatsWrong : ChangeSpec := { name := "fnFindIgnoresOrderAndRepeats", fn := fun _ => fun
  | [d1, d2] => { results := [.lit (.bool false)], args := [d1, d2] }
  | _ => none }
def FnFindIgnoresOrderAndRepeatsWrongFalsely : Prop := fnFindIgnoresOrderAndRepeatsRow.holds Trym.pinned (OpenSpec.ofChange fnFindIgnoresOrderAndRepeatsWrong)

/-- 'zzlaws_internal_ledger_b1.FnFindEachIdFindsItself': WHATEVER THE INPUT: true; the input reads as it did. -/
def fnFindEachIdFindsItselfSpec : ChangeSpec := { name := "fnFindEachIdFindsItself", fn := fun _ => fun
  | [d] => { results := [.lit (.bool true)], args := [d] }
  | _ => none }
def fnFindEachIdFindsItselfRow : OpenClaim := { program := "qxb6603348amods", sum := "7c17a1f81fd46d5671d2585d220034ba3d5da3e42169561ead7020560e8b0ec0", func := "example.com/tenderboard/tenderboard/zzlaws_internal_ledger_b1.FnFindEachIdFindsItself", spec := "fnFindEachIdFindsItself", make := .lifted ["publicsums"], apart := false }
def FnFindEachIdFindsItselfSaid : Prop := fnFindEachIdFindsItselfRow.holds Trym.pinned (OpenSpec.ofChange fnFindEachIdFindsItselfSpec)

/-- ITS FALSE NEIGHBOUR: 'it returns false'. Refute it at one input. -/
def fnFindEachIdFindsItselfWrong : ChangeSpec := { name := "fnFindEachIdFindsItself", fn := fun _ => fun
  | [d] => { results := [.lit (.bool false)], args := [d] }
  | _ => none }
def FnFindEachIdFindsItselfWrongFalsely : Prop := fnFindEachIdFindsItselfRow.holds Trym.pinned (OpenSpec.ofChange fnFindEachIdFindsItselfWrong)

end Rows
end Go.Proofs.Qxb6603348aMods
