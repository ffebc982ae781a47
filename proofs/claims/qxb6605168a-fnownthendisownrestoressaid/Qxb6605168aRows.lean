/-
  No cell of these rows narrows 'for every input' (looked for: loops, veiled, ifaces, maps, wideKeys, modest, calm, conditions, laid).
  DERIVED. THE GIVEN ROWS OF THIS SEAT. 4 by the template 'for every input the law returns true; each argument reads behind the call as it read before'; 0 by the template 'total and deterministic' (their statements: Qxb6605168aTotals.lean).
  GIVEN WITH THE SEED: the statements are not yours to turn. If you find one false, say at which input.
  Laid BY PROGRAM, IN A SANDBOX (cutbox-rows.mjs): the forced cells as the released guide's own fill.sh prints them over the translation 6c41a8da75e2c504… (all of the seat's roots in one cut). By AI agents, Wed Nov 11 2026. No macro, syntax, notation, axiom, sorry.
-/
import Derived.Test.Qxb6605168aChecked
import GoSem.Claim
import GoSem.ClaimJoined
import GoSem.ClaimMapViews
import Derived.JoinedTies
import Derived.KernelRfl
namespace Go.Proofs.Qxb6605168a
/- THE CELL 'sum', in the pinned program and in every row, IS THE sha256 OF THE DUMP (.gsa) THAT Qxb6605168aProg.lean LOADS. Nothing in Lean hashes anything: it is a label: what it is worth is what the hold of that sum in a sandbox is worth. -/
noncomputable def Try.pinned : Pinned := { name := "qxb6605168a", sum := "6c41a8da75e2c5045a7b5f688ac784257636e7289720cabdbd58a1a4bcef7ad9", checked := Try.checked }
namespace Rows
def none {H : Type} : Left H := { results := [], args := [] }

/-- 'zzlaws_znode_b1.FnSubtreeIsSortedSetAtOrBelow': WHATEVER THE INPUT: true; the input reads as it did. -/
def fnSubtreeIsSortedSetAtOrBelowSpec : ChangeSpec := { name := "fnSubtreeIsSortedSetAtOrBelow", fn := fun _ => fun
  | [d1, d2] => { results := [.lit (.bool true)], args := [d1, d2] }
  | _ => none }
def fnSubtreeIsSortedSetAtOrBelowRow : OpenClaim := { program := "qxb6605168a", sum := "6c41a8da75e2c5045a7b5f688ac784257636e7289720cabdbd58a1a4bcef7ad9", func := "example.com/quorumtree/quorumtree/zzlaws_znode_b1.FnSubtreeIsSortedSetAtOrBelow", spec := "fnSubtreeIsSortedSetAtOrBelow", recurses := true, apart := false }
def FnSubtreeIsSortedSetAtOrBelowSaid : Prop := fnSubtreeIsSortedSetAtOrBelowRow.holds Try.pinned (OpenSpec.ofChange fnSubtreeIsSortedSetAtOrBelowSpec)

/-- ITS FALSE NEIGHBOUR: 'it returns false'. Refute it at one input. -/
def fnSubtreeIsSortedSetAtOrBelowWrong : ChangeSpec := { name := "fnSubtreeIsSortedSetAtOrBelow", fn := fun _ => fun
  | [d1, d2] => { results := [.lit (.bool false)], args := [d1, d2] }
  | _ => none }
def FnSubtreeIsSortedSetAtOrBelowWrongFalsely : Prop := fnSubtreeIsSortedSetAtOrBelowRow.holds Try.pinned (OpenSpec.ofChange fnSubtreeIsSortedSetAtOrBelowWrong)

/-- 'zzlaws_znode_b1.FnSubtreeNestsAndLeadsWithItself': WHATEVER THE INPUT: true; the input reads as it did. -/
def fnSubtreeNestsAndLeadsWithItselfSpec : ChangeSpec := { name := "fnSubtreeNestsAndLeadsWithItself", fn := fun _ => fun
  | [d1, d2] => { results := [.lit (.bool true)], args := [d1, d2] }
  | _ => none }
def fnSubtreeNestsAndLeadsWithItselfRow : OpenClaim := { program := "qxb6605168a", sum := "6c41a8da75e2c5045a7b5f688ac784257636e7289720cabdbd58a1a4bcef7ad9", func := "example.com/quorumtree/quorumtree/zzlaws_znode_b1.FnSubtreeNestsAndLeadsWithItself", spec := "fnSubtreeNestsAndLeadsWithItself", recurses := true, apart := false }
def FnSubtreeNestsAndLeadsWithItselfSaid : Prop := fnSubtreeNestsAndLeadsWithItselfRow.holds Try.pinned (OpenSpec.ofChange fnSubtreeNestsAndLeadsWithItselfSpec)

/-- ITS FALSE NEIGHBOUR: 'it returns false'. Refute it at one input. -/
def fnSubtreeNestsAndLeadsWithItselfWrong : ChangeSpec := { name := "fnSubtreeNestsAndLeadsWithItself", fn := fun _ => fun
  | [d1, d2] => { results := [.lit (.bool false)], args := [d1, d2] }
  | _ => none }
def FnSubtreeNestsAndLeadsWithItselfWrongFalsely : Prop := fnSubtreeNestsAndLeadsWithItselfRow.holds Try.pinned (OpenSpec.ofChange fnSubtreeNestsAndLeadsWithItselfWrong)

/-- 'zzlaws_znode_b1.FnOwnKeepsEachSessionsOwnedSet': WHATEVER THE INPUT: true; the input reads as it did. -/
def fnOwnKeepsEachSessionsOwnedSetSpec : ChangeSpec := { name := "fnOwnKeepsEachSessionsOwnedSet", fn := fun _ => fun
  | [d] => { results := [.lit (.bool true)], args := [d] }
  | _ => none }
def fnOwnKeepsEachSessionsOwnedSetRow : OpenClaim := { program := "qxb6605168a", sum := "6c41a8da75e2c5045a7b5f688ac784257636e7289720cabdbd58a1a4bcef7ad9", func := "example.com/quorumtree/quorumtree/zzlaws_znode_b1.FnOwnKeepsEachSessionsOwnedSet", spec := "fnOwnKeepsEachSessionsOwnedSet", apart := false }
def FnOwnKeepsEachSessionsOwnedSetSaid : Prop := fnOwnKeepsEachSessionsOwnedSetRow.holds Try.pinned (OpenSpec.ofChange fnOwnKeepsEachSessionsOwnedSetSpec)

/-- ITS FALSE NEIGHBOUR: 'it returns false'. Refute it at one input. -/
def fnOwnKeepsEachSessionsOwnedSetWrong : ChangeSpec := { name := "fnOwnKeepsEachSessionsOwnedSet", fn := fun _ => fun
  | [d] => { results := [.lit (.bool false)], args := [d] }
  | _ => none }
def FnOwnKeepsEachSessionsOwnedSetWrongFalsely : Prop := fnOwnKeepsEachSessionsOwnedSetRow.holds Try.pinned (OpenSpec.ofChange fnOwnKeepsEachSessionsOwnedSetWrong)

/-- 'zzlaws_znode_b1.FnOwnThenDisownRestores': WHATEVER THE INPUT: true; the input reads as it did. -/
def fnOwnThenDisownRestoresSpec : ChangeSpec := { name := "fnOwnThenDisownRestores", fn := fun _ => fun
  | [d1, d2, d3] => { results := [.lit (.bool true)], args := [d1, d2, d3] }
  | _ => none }
def fnOwnThenDisownRestoresRow : OpenClaim := { program := "qxb6605168a", sum := "6c41a8da75e2c5045a7b5f688ac784257636e7289720cabdbd58a1a4bcef7ad9", func := "example.com/quorumtree/quorumtree/zzlaws_znode_b1.FnOwnThenDisownRestores", spec := "fnOwnThenDisownRestores", apart := false }
def FnOwnThenDisownRestoresSaid : Prop := fnOwnThenDisownRestoresRow.holds Try.pinned (OpenSpec.ofChange fnOwnThenDisownRestoresSpec)

/-- ITS FALSE NEIGHBOUR: 'it returns false'. Refute it at one input. -/
def fnOwnThenDisownRestoresWrong : ChangeSpec := { name := "fnOwnThenDisownRestores", fn := fun _ => fun
  | [d1, d2, d3] => { results := [.lit (.bool false)], args := [d1, d2, d3] }
  | _ => none }
def FnOwnThenDisownRestoresWrongFalsely : Prop := fnOwnThenDisownRestoresRow.holds Try.pinned (OpenSpec.ofChange fnOwnThenDisownRestoresWrong)

end Rows
end Go.Proofs.Qxb6605168a
