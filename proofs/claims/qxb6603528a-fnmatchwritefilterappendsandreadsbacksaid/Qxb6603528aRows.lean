/-
  No cell of these rows narrows 'for every input' (looked for: loops, veiled, ifaces, maps, wideKeys, modest, calm, conditions, laid).
  DERIVED. THE GIVEN ROWS OF THIS SEAT. 2 by the template 'for every input the law returns true; each argument reads behind the call as it read before'; 0 by the template 'total and deterministic' (their statements: Qxb6603528aTotals.lean).
  GIVEN WITH THE SEED: the statements are not yours to turn. If you find one false, say at which input.
  Laid BY PROGRAM, IN A SANDBOX (cutbox-rows.mjs): the forced cells as the released guide's own fill.sh prints them over the translation 843135be9c92e032… (all of the seat's roots in one cut). By AI agents, Wed Nov 11 2026. No macro, syntax, notation, axiom, sorry.
-/
import Derived.Test.Qxb6603528aChecked
import GoSem.Claim
import GoSem.ClaimJoined
import GoSem.ClaimMapViews
import Derived.JoinedTies
import Derived.KernelRfl
namespace Go.Proofs.Qxb6603528a
/- THE CELL 'sum', in the pinned program and in every row, IS THE sha256 OF THE DUMP (.gsa) THAT Qxb6603528aProg.lean LOADS. Nothing in Lean hashes anything: it is a label: what it is worth is what the hold of that sum in a sandbox is worth. -/
noncomputable def Try.pinned : Pinned := { name := "qxb6603528a", sum := "843135be9c92e0322b9b1d826fccb820e60612e7871d9ef122233a685d18d098", checked := Try.checked }
namespace Rows
def none {H : Type} : Left H := { results := [], args := [] }

/-- 'zzlaws_internal_tree_b1.FnMatchWriteFilterExact': WHATEVER THE INPUT: true; the input reads as it did. -/
def fnMatchWriteFilterExactSpec : ChangeSpec := { name := "fnMatchWriteFilterExact", fn := fun _ => fun
  | [d1, d2, d3, d4, d5, d6, d7] => { results := [.lit (.bool true)], args := [d1, d2, d3, d4, d5, d6, d7] }
  | _ => none }
def fnMatchWriteFilterExactRow : OpenClaim := { program := "qxb6603528a", sum := "843135be9c92e0322b9b1d826fccb820e60612e7871d9ef122233a685d18d098", func := "example.com/querywright/querywright/zzlaws_internal_tree_b1.FnMatchWriteFilterExact", spec := "fnMatchWriteFilterExact", inPlace := ["internal/abi.NoEscape"], unfollowed := true, recurses := true, apart := false }
def FnMatchWriteFilterExactSaid : Prop := fnMatchWriteFilterExactRow.holds Try.pinned (OpenSpec.ofChange fnMatchWriteFilterExactSpec)

/-- ITS FALSE NEIGHBOUR: 'it returns false'. Refute it at one input. -/
def fnMatchWriteFilterExactWrong : ChangeSpec := { name := "fnMatchWriteFilterExact", fn := fun _ => fun
  | [d1, d2, d3, d4, d5, d6, d7] => { results := [.lit (.bool false)], args := [d1, d2, d3, d4, d5, d6, d7] }
  | _ => none }
def FnMatchWriteFilterExactWrongFalsely : Prop := fnMatchWriteFilterExactRow.holds Try.pinned (OpenSpec.ofChange fnMatchWriteFilterExactWrong)

/-- 'zzlaws_internal_tree_b1.FnMatchWriteFilterAppendsAndReadsBack': WHATEVER THE INPUT: true; the input reads as it did. -/
def fnMatchWriteFilterAppendsAndReadsBackSpec : ChangeSpec := { name := "fnMatchWriteFilterAppendsAndReadsBack", fn := fun _ => fun
  | [d1, d2, d3, d4] => { results := [.lit (.bool true)], args := [d1, d2, d3, d4] }
  | _ => none }
def fnMatchWriteFilterAppendsAndReadsBackRow : OpenClaim := { program := "qxb6603528a", sum := "843135be9c92e0322b9b1d826fccb820e60612e7871d9ef122233a685d18d098", func := "example.com/querywright/querywright/zzlaws_internal_tree_b1.FnMatchWriteFilterAppendsAndReadsBack", spec := "fnMatchWriteFilterAppendsAndReadsBack", inPlace := ["internal/abi.NoEscape"], unfollowed := true, recurses := true, apart := false }
def FnMatchWriteFilterAppendsAndReadsBackSaid : Prop := fnMatchWriteFilterAppendsAndReadsBackRow.holds Try.pinned (OpenSpec.ofChange fnMatchWriteFilterAppendsAndReadsBackSpec)

/-- ITS FALSE NEIGHBOUR: 'it returns false'. Refute it at one input. -/
def fnMatchWriteFilterAppendsAndReadsBackWrong : ChangeSpec := { name := "fnMatchWriteFilterAppendsAndReadsBack", fn := fun _ => fun
  | [d1, d2, d3, d4] => { results := [.lit (.bool false)], args := [d1, d2, d3, d4] }
  | _ => none }
def FnMatchWriteFilterAppendsAndReadsBackWrongFalsely : Prop := fnMatchWriteFilterAppendsAndReadsBackRow.holds Try.pinned (OpenSpec.ofChange fnMatchWriteFilterAppendsAndReadsBackWrong)

end Rows
end Go.Proofs.Qxb6603528a
