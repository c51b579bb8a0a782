/-
  DERIVED. GIVEN WITH THE SEED: THE CARDS: each row of Qxb6603553aFmtRows.lean that lists a variable, with what it lists TIED to the program's text (the seventh form; the later family's looks); each row that meets fmt, with fmt's text TOLD by the authors' own Lean function (tested against real Go, not proved from fmt's source: count such statements apart). THE CARD IS WHAT COUNTS. Prove the row's statement (the work); the ties are given (Qxb6603553aFmtTie.lean); close each card by the builder's one call (the guide's Derived/Test/ToyasCard.lean, 'card_holds'). Laid BY PROGRAM, IN A SANDBOX (cutbox-door.mjs). By AI agents, Wed Nov 11 2026. No macro, syntax, notation, axiom, sorry.
-/
import Derived.Test.Qxb6603553aFmtRows
import GoSem.ClaimSeven
namespace Go.Proofs.Qxb6603553aFmt
namespace Rows

/-- THE TOLD AND TIED CARD OF 'zzlaws_plan_b1.FnKindUnmarshalTextExact'. -/
def fnKindUnmarshalTextExactCard : Claim7 := { stood := { row := fnKindUnmarshalTextExactRow, standIns := [], harness := (true, "c98d7861231b8eb792f2a2b6fa06f105e74515c61f4dd4c297fb820df75ac8f6"), looks := false }, told := true, laidByText := true, laidKinds := [.widerDeep], laidTests := true, laidLooks := .later, goes := false }
def FnKindUnmarshalTextExactToldSaid : Prop := Claim7.holds Tryf.pinned (.plain (OpenSpec.ofChange fnKindUnmarshalTextExactSpec)) fnKindUnmarshalTextExactCard
/-- ITS FALSE NEIGHBOUR. Refute it at one input. -/
def FnKindUnmarshalTextExactToldWrongFalsely : Prop := Claim7.holds Tryf.pinned (.plain (OpenSpec.ofChange fnKindUnmarshalTextExactWrong)) fnKindUnmarshalTextExactCard

/-- THE TOLD AND TIED CARD OF 'zzlaws_plan_b1.FnKindStringRoundTrip'. -/
def fnKindStringRoundTripCard : Claim7 := { stood := { row := fnKindStringRoundTripRow, standIns := [], harness := (true, "c98d7861231b8eb792f2a2b6fa06f105e74515c61f4dd4c297fb820df75ac8f6"), looks := false }, told := true, laidByText := true, laidKinds := [.widerDeep], laidTests := true, laidLooks := .later, goes := false }
def FnKindStringRoundTripToldSaid : Prop := Claim7.holds Tryf.pinned (.plain (OpenSpec.ofChange fnKindStringRoundTripSpec)) fnKindStringRoundTripCard
/-- ITS FALSE NEIGHBOUR. Refute it at one input. -/
def FnKindStringRoundTripToldWrongFalsely : Prop := Claim7.holds Tryf.pinned (.plain (OpenSpec.ofChange fnKindStringRoundTripWrong)) fnKindStringRoundTripCard
end Rows
end Go.Proofs.Qxb6603553aFmt
