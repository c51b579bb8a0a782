/-
  NARROWER THAN 'FOR EVERY INPUT', by the rows' own cells (each row's printed sentence says how): FnKindUnmarshalTextExact: laid · FnKindStringRoundTrip: laid.
  DERIVED. THE GIVEN ROWS OF THIS SEAT. 2 by the template 'for every input the law returns true; each argument reads behind the call as it read before'; 0 by the template 'total and deterministic' (their statements: Qxb6603553aFmtTotals.lean).
  GIVEN WITH THE SEED: the statements are not yours to turn. If you find one false, say at which input.
  Laid BY PROGRAM, IN A SANDBOX (cutbox-rows.mjs): the forced cells as the released guide's own fill.sh prints them over the translation 2b2048158e5981b9… (all of the seat's roots in one cut). By AI agents, Wed Nov 11 2026. No macro, syntax, notation, axiom, sorry.
-/
import Derived.Test.Qxb6603553aFmtChecked
import GoSem.Claim
import GoSem.ClaimJoined
import GoSem.ClaimMapViews
import Derived.JoinedTies
import Derived.KernelRfl
namespace Go.Proofs.Qxb6603553aFmt
/- THE CELL 'sum', in the pinned program and in every row, IS THE sha256 OF THE DUMP (.gsa) THAT Qxb6603553aFmtProg.lean LOADS. Nothing in Lean hashes anything: it is a label: what it is worth is what the hold of that sum in a sandbox is worth. -/
noncomputable def Tryf.pinned : Pinned := { name := "qxb6603553afmt", sum := "2b2048158e5981b934b570deef4fa56b100a7102be6bcc36df36ec3566c18b1e", checked := Tryf.checked }
namespace Rows
def none {H : Type} : Left H := { results := [], args := [] }

/- WHAT THE LISTED PACKAGE-LEVEL VARIABLES READ AS WHEN THE CALL BEGINS. Each datum BY PROGRAM (the guide's laid-datum.mjs) off the statement by which the dump's own 'gosem.cut.vars' lays the variable. In a bare row this is a premise. The card (Qxb6603553aFmtCards.lean) ties it to the program's text. -/
def laid_example_com_vestbook_vestbook_plan_kindNames {H : Type} : DataW H := .slice [.lit (.string [111, 112, 116, 105, 111, 110]), .lit (.string [114, 101, 115, 116, 114, 105, 99, 116, 101, 100]), .lit (.string [114, 101, 115, 116, 114, 105, 99, 116, 101, 100, 45, 105, 105])] []

/-- 'zzlaws_plan_b1.FnKindUnmarshalTextExact': WHATEVER THE INPUT: true; the input reads as it did. -/
def fnKindUnmarshalTextExactSpec : ChangeSpec := { name := "fnKindUnmarshalTextExact", vars := ["example.com/vestbook/vestbook/plan.kindNames"], fn := fun _ => fun
  | [d1, d2, g1] => { results := [.lit (.bool true)], args := [d1, d2], vars := [g1] }
  | _ => none }
def fnKindUnmarshalTextExactRow : OpenClaim := { program := "qxb6603553afmt", sum := "2b2048158e5981b934b570deef4fa56b100a7102be6bcc36df36ec3566c18b1e", func := "example.com/vestbook/vestbook/zzlaws_plan_b1.FnKindUnmarshalTextExact", spec := "fnKindUnmarshalTextExact", stops := ["fmt.Sprintf", "fmt.errorf"], inPlace := ["internal/abi.NoEscape", "internal/bytealg.MakeNoZero", "fmt.errorf"], named := ["example.com/vestbook/vestbook/plan.kindNames"], apart := false, laid := [("example.com/vestbook/vestbook/plan.kindNames", laid_example_com_vestbook_vestbook_plan_kindNames)] }
/-- NO THEOREM (fmt's text is open here; it may be false): for the released tool's asking of the row's closed facts alone. THE STATEMENT IS 'FnKindUnmarshalTextExactToldSaid' (Qxb6603553aFmtCards.lean). -/
def FnKindUnmarshalTextExactFormAsk : Prop := fnKindUnmarshalTextExactRow.holds Tryf.pinned (OpenSpec.ofChange fnKindUnmarshalTextExactSpec)

/-- ITS FALSE NEIGHBOUR: 'it returns false'. Refute it at one input. -/
def fnKindUnmarshalTextExactWrong : ChangeSpec := { name := "fnKindUnmarshalTextExact", vars := ["example.com/vestbook/vestbook/plan.kindNames"], fn := fun _ => fun
  | [d1, d2, g1] => { results := [.lit (.bool false)], args := [d1, d2], vars := [g1] }
  | _ => none }
def FnKindUnmarshalTextExactWrongFormAsk : Prop := fnKindUnmarshalTextExactRow.holds Tryf.pinned (OpenSpec.ofChange fnKindUnmarshalTextExactWrong)

/-- 'zzlaws_plan_b1.FnKindStringRoundTrip': WHATEVER THE INPUT: true; the input reads as it did. -/
def fnKindStringRoundTripSpec : ChangeSpec := { name := "fnKindStringRoundTrip", vars := ["example.com/vestbook/vestbook/plan.kindNames"], fn := fun _ => fun
  | [d1, d2, d3, g1] => { results := [.lit (.bool true)], args := [d1, d2, d3], vars := [g1] }
  | _ => none }
def fnKindStringRoundTripRow : OpenClaim := { program := "qxb6603553afmt", sum := "2b2048158e5981b934b570deef4fa56b100a7102be6bcc36df36ec3566c18b1e", func := "example.com/vestbook/vestbook/zzlaws_plan_b1.FnKindStringRoundTrip", spec := "fnKindStringRoundTrip", stops := ["fmt.Sprintf", "fmt.errorf"], inPlace := ["fmt.Sprintf", "internal/abi.NoEscape", "internal/bytealg.MakeNoZero", "fmt.errorf"], named := ["example.com/vestbook/vestbook/plan.kindNames"], apart := false, laid := [("example.com/vestbook/vestbook/plan.kindNames", laid_example_com_vestbook_vestbook_plan_kindNames)] }
/-- NO THEOREM (fmt's text is open here; it may be false): for the released tool's asking of the row's closed facts alone. THE STATEMENT IS 'FnKindStringRoundTripToldSaid' (Qxb6603553aFmtCards.lean). -/
def FnKindStringRoundTripFormAsk : Prop := fnKindStringRoundTripRow.holds Tryf.pinned (OpenSpec.ofChange fnKindStringRoundTripSpec)

/-- ITS FALSE NEIGHBOUR: 'it returns false'. Refute it at one input. -/
def fnKindStringRoundTripWrong : ChangeSpec := { name := "fnKindStringRoundTrip", vars := ["example.com/vestbook/vestbook/plan.kindNames"], fn := fun _ => fun
  | [d1, d2, d3, g1] => { results := [.lit (.bool false)], args := [d1, d2, d3], vars := [g1] }
  | _ => none }
def FnKindStringRoundTripWrongFormAsk : Prop := fnKindStringRoundTripRow.holds Tryf.pinned (OpenSpec.ofChange fnKindStringRoundTripWrong)

end Rows
end Go.Proofs.Qxb6603553aFmt
