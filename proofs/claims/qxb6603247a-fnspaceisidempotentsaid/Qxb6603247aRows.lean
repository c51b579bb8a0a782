/-
  No cell of these rows narrows 'for every input' (looked for: loops, veiled, ifaces, maps, wideKeys, modest, calm, conditions, laid).
  DERIVED. THE GIVEN ROWS OF THIS SEAT. 5 by the template 'for every input the law returns true; each argument reads behind the call as it read before'; 0 by the template 'total and deterministic' (their statements: Qxb6603247aTotals.lean).
  GIVEN WITH THE SEED: the statements are not yours to turn. If you find one false, say at which input.
  Laid BY PROGRAM, IN A SANDBOX (cutbox-rows.mjs): the forced cells as the released guide's own fill.sh prints them over the translation f329981aa17d7ab1… (all of the seat's roots in one cut). By AI agents, Wed Nov 11 2026. No macro, syntax, notation, axiom, sorry.
-/
import Derived.Test.Qxb6603247aChecked
import GoSem.Claim
import GoSem.ClaimJoined
import GoSem.ClaimMapViews
import Derived.JoinedTies
import Derived.KernelRfl
namespace Go.Proofs.Qxb6603247a
/- THE CELL 'sum', in the pinned program and in every row, IS THE sha256 OF THE DUMP (.gsa) THAT Qxb6603247aProg.lean LOADS. Nothing in Lean hashes anything: it is a label: what it is worth is what the hold of that sum in a sandbox is worth. -/
noncomputable def Try.pinned : Pinned := { name := "qxb6603247a", sum := "f329981aa17d7ab1cd89c8687811733c6973e83b243bcd413eebd8dbbaf6c6a0", checked := Try.checked }
namespace Rows
def none {H : Type} : Left H := { results := [], args := [] }

/-- 'zzlaws_pkg_plainjson_b1.FnSpaceStopsAtFirstNonWhite': WHATEVER THE INPUT: true; the input reads as it did. -/
def fnSpaceStopsAtFirstNonWhiteSpec : ChangeSpec := { name := "fnSpaceStopsAtFirstNonWhite", fn := fun _ => fun
  | [d1, d2, d3] => { results := [.lit (.bool true)], args := [d1, d2, d3] }
  | _ => none }
def fnSpaceStopsAtFirstNonWhiteRow : OpenClaim := { program := "qxb6603247a", sum := "f329981aa17d7ab1cd89c8687811733c6973e83b243bcd413eebd8dbbaf6c6a0", func := "example.com/honeybee/honeybee/zzlaws_pkg_plainjson_b1.FnSpaceStopsAtFirstNonWhite", spec := "fnSpaceStopsAtFirstNonWhite", apart := false }
def FnSpaceStopsAtFirstNonWhiteSaid : Prop := fnSpaceStopsAtFirstNonWhiteRow.holds Try.pinned (OpenSpec.ofChange fnSpaceStopsAtFirstNonWhiteSpec)

/-- ITS FALSE NEIGHBOUR: 'it returns false'. Refute it at one input. -/
def fnSpaceStopsAtFirstNonWhiteWrong : ChangeSpec := { name := "fnSpaceStopsAtFirstNonWhite", fn := fun _ => fun
  | [d1, d2, d3] => { results := [.lit (.bool false)], args := [d1, d2, d3] }
  | _ => none }
def FnSpaceStopsAtFirstNonWhiteWrongFalsely : Prop := fnSpaceStopsAtFirstNonWhiteRow.holds Try.pinned (OpenSpec.ofChange fnSpaceStopsAtFirstNonWhiteWrong)

/-- 'zzlaws_pkg_plainjson_b1.FnSpaceIsIdempotent': WHATEVER THE INPUT: true; the input reads as it did. -/
def fnSpaceIsIdempotentSpec : ChangeSpec := { name := "fnSpaceIsIdempotent", fn := fun _ => fun
  | [d1, d2, d3] => { results := [.lit (.bool true)], args := [d1, d2, d3] }
  | _ => none }
def fnSpaceIsIdempotentRow : OpenClaim := { program := "qxb6603247a", sum := "f329981aa17d7ab1cd89c8687811733c6973e83b243bcd413eebd8dbbaf6c6a0", func := "example.com/honeybee/honeybee/zzlaws_pkg_plainjson_b1.FnSpaceIsIdempotent", spec := "fnSpaceIsIdempotent", apart := false }
def FnSpaceIsIdempotentSaid : Prop := fnSpaceIsIdempotentRow.holds Try.pinned (OpenSpec.ofChange fnSpaceIsIdempotentSpec)

/-- ITS FALSE NEIGHBOUR: 'it returns false'. Refute it at one input. -/
def fnSpaceIsIdempotentWrong : ChangeSpec := { name := "fnSpaceIsIdempotent", fn := fun _ => fun
  | [d1, d2, d3] => { results := [.lit (.bool false)], args := [d1, d2, d3] }
  | _ => none }
def FnSpaceIsIdempotentWrongFalsely : Prop := fnSpaceIsIdempotentRow.holds Try.pinned (OpenSpec.ofChange fnSpaceIsIdempotentWrong)

/-- 'zzlaws_pkg_plainjson_b1.FnNextTakesExactlyTheByteAfterWhiteSpace': WHATEVER THE INPUT: true; the input reads as it did. -/
def fnNextTakesExactlyTheByteAfterWhiteSpaceSpec : ChangeSpec := { name := "fnNextTakesExactlyTheByteAfterWhiteSpace", fn := fun _ => fun
  | [d1, d2, d3, d4] => { results := [.lit (.bool true)], args := [d1, d2, d3, d4] }
  | _ => none }
def fnNextTakesExactlyTheByteAfterWhiteSpaceRow : OpenClaim := { program := "qxb6603247a", sum := "f329981aa17d7ab1cd89c8687811733c6973e83b243bcd413eebd8dbbaf6c6a0", func := "example.com/honeybee/honeybee/zzlaws_pkg_plainjson_b1.FnNextTakesExactlyTheByteAfterWhiteSpace", spec := "fnNextTakesExactlyTheByteAfterWhiteSpace", apart := false }
def FnNextTakesExactlyTheByteAfterWhiteSpaceSaid : Prop := fnNextTakesExactlyTheByteAfterWhiteSpaceRow.holds Try.pinned (OpenSpec.ofChange fnNextTakesExactlyTheByteAfterWhiteSpaceSpec)

/-- ITS FALSE NEIGHBOUR: 'it returns false'. Refute it at one input. -/
def fnNextTakesExactlyTheByteAfterWhiteSpaceWrong : ChangeSpec := { name := "fnNextTakesExactlyTheByteAfterWhiteSpace", fn := fun _ => fun
  | [d1, d2, d3, d4] => { results := [.lit (.bool false)], args := [d1, d2, d3, d4] }
  | _ => none }
def FnNextTakesExactlyTheByteAfterWhiteSpaceWrongFalsely : Prop := fnNextTakesExactlyTheByteAfterWhiteSpaceRow.holds Try.pinned (OpenSpec.ofChange fnNextTakesExactlyTheByteAfterWhiteSpaceWrong)

/-- 'zzlaws_pkg_plainjson_b1.FnReadIntMatchesDecimalModel': WHATEVER THE INPUT: true; the input reads as it did. -/
def fnReadIntMatchesDecimalModelSpec : ChangeSpec := { name := "fnReadIntMatchesDecimalModel", fn := fun _ => fun
  | [d1, d2, d3] => { results := [.lit (.bool true)], args := [d1, d2, d3] }
  | _ => none }
def fnReadIntMatchesDecimalModelRow : OpenClaim := { program := "qxb6603247a", sum := "f329981aa17d7ab1cd89c8687811733c6973e83b243bcd413eebd8dbbaf6c6a0", func := "example.com/honeybee/honeybee/zzlaws_pkg_plainjson_b1.FnReadIntMatchesDecimalModel", spec := "fnReadIntMatchesDecimalModel", apart := false }
def FnReadIntMatchesDecimalModelSaid : Prop := fnReadIntMatchesDecimalModelRow.holds Try.pinned (OpenSpec.ofChange fnReadIntMatchesDecimalModelSpec)

/-- ITS FALSE NEIGHBOUR: 'it returns false'. Refute it at one input. -/
def fnReadIntMatchesDecimalModelWrong : ChangeSpec := { name := "fnReadIntMatchesDecimalModel", fn := fun _ => fun
  | [d1, d2, d3] => { results := [.lit (.bool false)], args := [d1, d2, d3] }
  | _ => none }
def FnReadIntMatchesDecimalModelWrongFalsely : Prop := fnReadIntMatchesDecimalModelRow.holds Try.pinned (OpenSpec.ofChange fnReadIntMatchesDecimalModelWrong)

/-- 'zzlaws_pkg_plainjson_b1.FnReadIntReadsItsOwnDecimal': WHATEVER THE INPUT: true; the input reads as it did. -/
def fnReadIntReadsItsOwnDecimalSpec : ChangeSpec := { name := "fnReadIntReadsItsOwnDecimal", fn := fun _ => fun
  | [d] => { results := [.lit (.bool true)], args := [d] }
  | _ => none }
def fnReadIntReadsItsOwnDecimalRow : OpenClaim := { program := "qxb6603247a", sum := "f329981aa17d7ab1cd89c8687811733c6973e83b243bcd413eebd8dbbaf6c6a0", func := "example.com/honeybee/honeybee/zzlaws_pkg_plainjson_b1.FnReadIntReadsItsOwnDecimal", spec := "fnReadIntReadsItsOwnDecimal", apart := false }
def FnReadIntReadsItsOwnDecimalSaid : Prop := fnReadIntReadsItsOwnDecimalRow.holds Try.pinned (OpenSpec.ofChange fnReadIntReadsItsOwnDecimalSpec)

/-- ITS FALSE NEIGHBOUR: 'it returns false'. Refute it at one input. -/
def fnReadIntReadsItsOwnDecimalWrong : ChangeSpec := { name := "fnReadIntReadsItsOwnDecimal", fn := fun _ => fun
  | [d] => { results := [.lit (.bool false)], args := [d] }
  | _ => none }
def FnReadIntReadsItsOwnDecimalWrongFalsely : Prop := fnReadIntReadsItsOwnDecimalRow.holds Try.pinned (OpenSpec.ofChange fnReadIntReadsItsOwnDecimalWrong)

end Rows
end Go.Proofs.Qxb6603247a
