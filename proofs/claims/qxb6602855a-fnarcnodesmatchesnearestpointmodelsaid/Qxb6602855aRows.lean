/-
  No cell of these rows narrows 'for every input' (looked for: loops, veiled, ifaces, maps, wideKeys, modest, calm, conditions, laid).
  DERIVED. THE GIVEN ROWS OF THIS SEAT. 3 by the template 'for every input the law returns true; each argument reads behind the call as it read before'; 0 by the template 'total and deterministic' (their statements: Qxb6602855aTotals.lean).
  GIVEN WITH THE SEED: the statements are not yours to turn. If you find one false, say at which input.
  Laid BY PROGRAM, IN A SANDBOX (cutbox-rows.mjs): the forced cells as the released guide's own fill.sh prints them over the translation e8be0278bdce6cba… (all of the seat's roots in one cut). By AI agents, Wed Nov 11 2026. No macro, syntax, notation, axiom, sorry.
-/
import Derived.Test.Qxb6602855aChecked
import GoSem.Claim
import GoSem.ClaimJoined
import GoSem.ClaimMapViews
import Derived.JoinedTies
import Derived.KernelRfl
namespace Go.Proofs.Qxb6602855a
/- THE CELL 'sum', in the pinned program and in every row, IS THE sha256 OF THE DUMP (.gsa) THAT Qxb6602855aProg.lean LOADS. Nothing in Lean hashes anything: it is a label: what it is worth is what the hold of that sum in a sandbox is worth. -/
noncomputable def Try.pinned : Pinned := { name := "qxb6602855a", sum := "e8be0278bdce6cba807b20ab5a1c03e156a158f0b9c2e72b942b5a6b1120be74", checked := Try.checked }
namespace Rows
def none {H : Type} : Left H := { results := [], args := [] }

/-- 'zzlaws_pkg_ring_b1.FnArcNodesMatchesNearestPointModel': WHATEVER THE INPUT: true; the input reads as it did. -/
def fnArcNodesMatchesNearestPointModelSpec : ChangeSpec := { name := "fnArcNodesMatchesNearestPointModel", fn := fun _ => fun
  | [d1, d2, d3, d4, d5, d6, d7] => { results := [.lit (.bool true)], args := [d1, d2, d3, d4, d5, d6, d7] }
  | _ => none }
def fnArcNodesMatchesNearestPointModelRow : OpenClaim := { program := "qxb6602855a", sum := "e8be0278bdce6cba807b20ab5a1c03e156a158f0b9c2e72b942b5a6b1120be74", func := "example.com/ringfold/ringfold/zzlaws_pkg_ring_b1.FnArcNodesMatchesNearestPointModel", spec := "fnArcNodesMatchesNearestPointModel", apart := false }
def FnArcNodesMatchesNearestPointModelSaid : Prop := fnArcNodesMatchesNearestPointModelRow.holds Try.pinned (OpenSpec.ofChange fnArcNodesMatchesNearestPointModelSpec)

/-- ITS FALSE NEIGHBOUR: 'it returns false'. Refute it at one input. -/
def fnArcNodesMatchesNearestPointModelWrong : ChangeSpec := { name := "fnArcNodesMatchesNearestPointModel", fn := fun _ => fun
  | [d1, d2, d3, d4, d5, d6, d7] => { results := [.lit (.bool false)], args := [d1, d2, d3, d4, d5, d6, d7] }
  | _ => none }
def FnArcNodesMatchesNearestPointModelWrongFalsely : Prop := fnArcNodesMatchesNearestPointModelRow.holds Try.pinned (OpenSpec.ofChange fnArcNodesMatchesNearestPointModelWrong)

/-- 'zzlaws_pkg_ring_b1.FnArcNodesFewerIsPrefix': WHATEVER THE INPUT: true; the input reads as it did. -/
def fnArcNodesFewerIsPrefixSpec : ChangeSpec := { name := "fnArcNodesFewerIsPrefix", fn := fun _ => fun
  | [d1, d2, d3, d4, d5, d6, d7, d8] => { results := [.lit (.bool true)], args := [d1, d2, d3, d4, d5, d6, d7, d8] }
  | _ => none }
def fnArcNodesFewerIsPrefixRow : OpenClaim := { program := "qxb6602855a", sum := "e8be0278bdce6cba807b20ab5a1c03e156a158f0b9c2e72b942b5a6b1120be74", func := "example.com/ringfold/ringfold/zzlaws_pkg_ring_b1.FnArcNodesFewerIsPrefix", spec := "fnArcNodesFewerIsPrefix", apart := false }
def FnArcNodesFewerIsPrefixSaid : Prop := fnArcNodesFewerIsPrefixRow.holds Try.pinned (OpenSpec.ofChange fnArcNodesFewerIsPrefixSpec)

/-- ITS FALSE NEIGHBOUR: 'it returns false'. Refute it at one input. -/
def fnArcNodesFewerIsPrefixWrong : ChangeSpec := { name := "fnArcNodesFewerIsPrefix", fn := fun _ => fun
  | [d1, d2, d3, d4, d5, d6, d7, d8] => { results := [.lit (.bool false)], args := [d1, d2, d3, d4, d5, d6, d7, d8] }
  | _ => none }
def FnArcNodesFewerIsPrefixWrongFalsely : Prop := fnArcNodesFewerIsPrefixRow.holds Try.pinned (OpenSpec.ofChange fnArcNodesFewerIsPrefixWrong)

/-- 'zzlaws_pkg_ring_b1.FnArcNodesDependsOnArcModPoints': WHATEVER THE INPUT: true; the input reads as it did. -/
def fnArcNodesDependsOnArcModPointsSpec : ChangeSpec := { name := "fnArcNodesDependsOnArcModPoints", fn := fun _ => fun
  | [d1, d2, d3, d4, d5, d6, d7] => { results := [.lit (.bool true)], args := [d1, d2, d3, d4, d5, d6, d7] }
  | _ => none }
def fnArcNodesDependsOnArcModPointsRow : OpenClaim := { program := "qxb6602855a", sum := "e8be0278bdce6cba807b20ab5a1c03e156a158f0b9c2e72b942b5a6b1120be74", func := "example.com/ringfold/ringfold/zzlaws_pkg_ring_b1.FnArcNodesDependsOnArcModPoints", spec := "fnArcNodesDependsOnArcModPoints", apart := false }
def FnArcNodesDependsOnArcModPointsSaid : Prop := fnArcNodesDependsOnArcModPointsRow.holds Try.pinned (OpenSpec.ofChange fnArcNodesDependsOnArcModPointsSpec)

/-- ITS FALSE NEIGHBOUR: 'it returns false'. Refute it at one input. -/
def fnArcNodesDependsOnArcModPointsWrong : ChangeSpec := { name := "fnArcNodesDependsOnArcModPoints", fn := fun _ => fun
  | [d1, d2, d3, d4, d5, d6, d7] => { results := [.lit (.bool false)], args := [d1, d2, d3, d4, d5, d6, d7] }
  | _ => none }
def FnArcNodesDependsOnArcModPointsWrongFalsely : Prop := fnArcNodesDependsOnArcModPointsRow.holds Try.pinned (OpenSpec.ofChange fnArcNodesDependsOnArcModPointsWrong)

end Rows
end Go.Proofs.Qxb6602855a
