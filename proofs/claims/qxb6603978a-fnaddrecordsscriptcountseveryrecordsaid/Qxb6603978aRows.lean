/-
  No cell of these rows narrows 'for every input' (looked for: loops, veiled, ifaces, maps, wideKeys, modest, calm, conditions, laid).
  DERIVED. THE GIVEN ROWS OF THIS SEAT. 6 by the template 'for every input the law returns true; each argument reads behind the call as it read before'; 0 by the template 'total and deterministic' (their statements: Qxb6603978aTotals.lean).
  GIVEN WITH THE SEED: the statements are not yours to turn. If you find one false, say at which input.
  Laid BY PROGRAM, IN A SANDBOX (cutbox-rows.mjs): the forced cells as the released guide's own fill.sh prints them over the translation f6fe701f88e6c313… (all of the seat's roots in one cut). By AI agents, Wed Nov 11 2026. No macro, syntax, notation, axiom, sorry.
-/
import Derived.Test.Qxb6603978aChecked
import GoSem.Claim
import GoSem.ClaimJoined
import GoSem.ClaimMapViews
import Derived.JoinedTies
import Derived.KernelRfl
namespace Go.Proofs.Qxb6603978a
/- THE CELL 'sum', in the pinned program and in every row, IS THE sha256 OF THE DUMP (.gsa) THAT Qxb6603978aProg.lean LOADS. Nothing in Lean hashes anything: it is a label: what it is worth is what the hold of that sum in a sandbox is worth. -/
noncomputable def Try.pinned : Pinned := { name := "qxb6603978a", sum := "f6fe701f88e6c31313c7ec18c9c510e43a71dcace73fc16ad9e669366d628beb", checked := Try.checked }
namespace Rows
def none {H : Type} : Left H := { results := [], args := [] }

/-- 'zzlaws_internal_policy_b1.FnSumMatchesLastWinsModel': WHATEVER THE INPUT: true; the input reads as it did. -/
def fnSumMatchesLastWinsModelSpec : ChangeSpec := { name := "fnSumMatchesLastWinsModel", fn := fun _ => fun
  | [d1, d2] => { results := [.lit (.bool true)], args := [d1, d2] }
  | _ => none }
def fnSumMatchesLastWinsModelRow : OpenClaim := { program := "qxb6603978a", sum := "f6fe701f88e6c31313c7ec18c9c510e43a71dcace73fc16ad9e669366d628beb", func := "example.com/ebbline/ebbline/zzlaws_internal_policy_b1.FnSumMatchesLastWinsModel", spec := "fnSumMatchesLastWinsModel", apart := false }
def FnSumMatchesLastWinsModelSaid : Prop := fnSumMatchesLastWinsModelRow.holds Try.pinned (OpenSpec.ofChange fnSumMatchesLastWinsModelSpec)

/-- ITS FALSE NEIGHBOUR: 'it returns false'. Refute it at one input. -/
def fnSumMatchesLastWinsModelWrong : ChangeSpec := { name := "fnSumMatchesLastWinsModel", fn := fun _ => fun
  | [d1, d2] => { results := [.lit (.bool false)], args := [d1, d2] }
  | _ => none }
def FnSumMatchesLastWinsModelWrongFalsely : Prop := fnSumMatchesLastWinsModelRow.holds Try.pinned (OpenSpec.ofChange fnSumMatchesLastWinsModelWrong)

/-- 'zzlaws_internal_policy_b1.FnAddMatchesModel': WHATEVER THE INPUT: true; the input reads as it did. -/
def fnAddMatchesModelSpec : ChangeSpec := { name := "fnAddMatchesModel", fn := fun _ => fun
  | [d1, d2, d3, d4] => { results := [.lit (.bool true)], args := [d1, d2, d3, d4] }
  | _ => none }
def fnAddMatchesModelRow : OpenClaim := { program := "qxb6603978a", sum := "f6fe701f88e6c31313c7ec18c9c510e43a71dcace73fc16ad9e669366d628beb", func := "example.com/ebbline/ebbline/zzlaws_internal_policy_b1.FnAddMatchesModel", spec := "fnAddMatchesModel", apart := false }
def FnAddMatchesModelSaid : Prop := fnAddMatchesModelRow.holds Try.pinned (OpenSpec.ofChange fnAddMatchesModelSpec)

/-- ITS FALSE NEIGHBOUR: 'it returns false'. Refute it at one input. -/
def fnAddMatchesModelWrong : ChangeSpec := { name := "fnAddMatchesModel", fn := fun _ => fun
  | [d1, d2, d3, d4] => { results := [.lit (.bool false)], args := [d1, d2, d3, d4] }
  | _ => none }
def FnAddMatchesModelWrongFalsely : Prop := fnAddMatchesModelRow.holds Try.pinned (OpenSpec.ofChange fnAddMatchesModelWrong)

/-- 'zzlaws_internal_policy_b1.FnAddShiftsSumByN': WHATEVER THE INPUT: true; the input reads as it did. -/
def fnAddShiftsSumByNSpec : ChangeSpec := { name := "fnAddShiftsSumByN", fn := fun _ => fun
  | [d1, d2, d3, d4] => { results := [.lit (.bool true)], args := [d1, d2, d3, d4] }
  | _ => none }
def fnAddShiftsSumByNRow : OpenClaim := { program := "qxb6603978a", sum := "f6fe701f88e6c31313c7ec18c9c510e43a71dcace73fc16ad9e669366d628beb", func := "example.com/ebbline/ebbline/zzlaws_internal_policy_b1.FnAddShiftsSumByN", spec := "fnAddShiftsSumByN", apart := false }
def FnAddShiftsSumByNSaid : Prop := fnAddShiftsSumByNRow.holds Try.pinned (OpenSpec.ofChange fnAddShiftsSumByNSpec)

/-- ITS FALSE NEIGHBOUR: 'it returns false'. Refute it at one input. -/
def fnAddShiftsSumByNWrong : ChangeSpec := { name := "fnAddShiftsSumByN", fn := fun _ => fun
  | [d1, d2, d3, d4] => { results := [.lit (.bool false)], args := [d1, d2, d3, d4] }
  | _ => none }
def FnAddShiftsSumByNWrongFalsely : Prop := fnAddShiftsSumByNRow.holds Try.pinned (OpenSpec.ofChange fnAddShiftsSumByNWrong)

/-- 'zzlaws_internal_policy_b1.FnAddScriptCountsEveryRecord': WHATEVER THE INPUT: true; the input reads as it did. -/
def fnAddScriptCountsEveryRecordSpec : ChangeSpec := { name := "fnAddScriptCountsEveryRecord", fn := fun _ => fun
  | [d1, d2] => { results := [.lit (.bool true)], args := [d1, d2] }
  | _ => none }
def fnAddScriptCountsEveryRecordRow : OpenClaim := { program := "qxb6603978a", sum := "f6fe701f88e6c31313c7ec18c9c510e43a71dcace73fc16ad9e669366d628beb", func := "example.com/ebbline/ebbline/zzlaws_internal_policy_b1.FnAddScriptCountsEveryRecord", spec := "fnAddScriptCountsEveryRecord", apart := false }
def FnAddScriptCountsEveryRecordSaid : Prop := fnAddScriptCountsEveryRecordRow.holds Try.pinned (OpenSpec.ofChange fnAddScriptCountsEveryRecordSpec)

/-- ITS FALSE NEIGHBOUR: 'it returns false'. Refute it at one input. -/
def fnAddScriptCountsEveryRecordWrong : ChangeSpec := { name := "fnAddScriptCountsEveryRecord", fn := fun _ => fun
  | [d1, d2] => { results := [.lit (.bool false)], args := [d1, d2] }
  | _ => none }
def FnAddScriptCountsEveryRecordWrongFalsely : Prop := fnAddScriptCountsEveryRecordRow.holds Try.pinned (OpenSpec.ofChange fnAddScriptCountsEveryRecordWrong)

/-- 'zzlaws_internal_policy_b1.FnAddRecordsMatchesModel': WHATEVER THE INPUT: true; the input reads as it did. -/
def fnAddRecordsMatchesModelSpec : ChangeSpec := { name := "fnAddRecordsMatchesModel", fn := fun _ => fun
  | [d1, d2, d3, d4, d5, d6, d7, d8, d9] => { results := [.lit (.bool true)], args := [d1, d2, d3, d4, d5, d6, d7, d8, d9] }
  | _ => none }
def fnAddRecordsMatchesModelRow : OpenClaim := { program := "qxb6603978a", sum := "f6fe701f88e6c31313c7ec18c9c510e43a71dcace73fc16ad9e669366d628beb", func := "example.com/ebbline/ebbline/zzlaws_internal_policy_b1.FnAddRecordsMatchesModel", spec := "fnAddRecordsMatchesModel", apart := false }
def FnAddRecordsMatchesModelSaid : Prop := fnAddRecordsMatchesModelRow.holds Try.pinned (OpenSpec.ofChange fnAddRecordsMatchesModelSpec)

/-- ITS FALSE NEIGHBOUR: 'it returns false'. Refute it at one input. -/
def fnAddRecordsMatchesModelWrong : ChangeSpec := { name := "fnAddRecordsMatchesModel", fn := fun _ => fun
  | [d1, d2, d3, d4, d5, d6, d7, d8, d9] => { results := [.lit (.bool false)], args := [d1, d2, d3, d4, d5, d6, d7, d8, d9] }
  | _ => none }
def FnAddRecordsMatchesModelWrongFalsely : Prop := fnAddRecordsMatchesModelRow.holds Try.pinned (OpenSpec.ofChange fnAddRecordsMatchesModelWrong)

/-- 'zzlaws_internal_policy_b1.FnAddRecordsScriptCountsEveryRecord': WHATEVER THE INPUT: true; the input reads as it did. -/
def fnAddRecordsScriptCountsEveryRecordSpec : ChangeSpec := { name := "fnAddRecordsScriptCountsEveryRecord", fn := fun _ => fun
  | [d1, d2, d3, d4] => { results := [.lit (.bool true)], args := [d1, d2, d3, d4] }
  | _ => none }
def fnAddRecordsScriptCountsEveryRecordRow : OpenClaim := { program := "qxb6603978a", sum := "f6fe701f88e6c31313c7ec18c9c510e43a71dcace73fc16ad9e669366d628beb", func := "example.com/ebbline/ebbline/zzlaws_internal_policy_b1.FnAddRecordsScriptCountsEveryRecord", spec := "fnAddRecordsScriptCountsEveryRecord", apart := false }
def FnAddRecordsScriptCountsEveryRecordSaid : Prop := fnAddRecordsScriptCountsEveryRecordRow.holds Try.pinned (OpenSpec.ofChange fnAddRecordsScriptCountsEveryRecordSpec)

/-- ITS FALSE NEIGHBOUR: 'it returns false'. Refute it at one input. -/
def fnAddRecordsScriptCountsEveryRecordWrong : ChangeSpec := { name := "fnAddRecordsScriptCountsEveryRecord", fn := fun _ => fun
  | [d1, d2, d3, d4] => { results := [.lit (.bool false)], args := [d1, d2, d3, d4] }
  | _ => none }
def FnAddRecordsScriptCountsEveryRecordWrongFalsely : Prop := fnAddRecordsScriptCountsEveryRecordRow.holds Try.pinned (OpenSpec.ofChange fnAddRecordsScriptCountsEveryRecordWrong)

end Rows
end Go.Proofs.Qxb6603978a
