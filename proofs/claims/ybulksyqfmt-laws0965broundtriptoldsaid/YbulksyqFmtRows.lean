/-
  NARROWER THAN 'FOR EVERY INPUT', by the rows' own cells (each row's printed sentence says how): LawS0965BExact: laid · LawS0965BRoundTrip: laid.
  DERIVED. THE GIVEN ROWS OF THIS SEAT. 2 by the template 'for every input the law returns true; each argument reads behind the call as it read before'; 0 by the template 'total and deterministic' (their statements: YbulksyqFmtTotals.lean).
  GIVEN WITH THE SEED: the statements are not yours to turn. If you find one false, say at which input.
  Laid BY PROGRAM, IN A SANDBOX (cutbox-rows.mjs): the forced cells as the released guide's own fill.sh prints them over the translation bf2ca07af85d4aaf… (all of the seat's roots in one cut). By AI agents, Wed Nov 11 2026. No macro, syntax, notation, axiom, sorry.
-/
import Derived.Test.YbulksyqFmtChecked
import GoSem.Claim
import GoSem.ClaimJoined
import GoSem.ClaimMapViews
import Derived.JoinedTies
import Derived.KernelRfl
namespace Go.Proofs.YbulksyqFmt
/- THE CELL 'sum', in the pinned program and in every row, IS THE sha256 OF THE DUMP (.gsa) THAT YbulksyqFmtProg.lean LOADS. Nothing in Lean hashes anything: it is a label: what it is worth is what the hold of that sum in a sandbox is worth. -/
noncomputable def Ybaf.pinned : Pinned := { name := "ybulksyqfmt", sum := "bf2ca07af85d4aaff9762c700dbf06cf1ae7df9806eb25813bdd36d1a2b501c7", checked := Ybaf.checked }
namespace Rows
def none {H : Type} : Left H := { results := [], args := [] }

/- WHAT THE LISTED PACKAGE-LEVEL VARIABLES READ AS WHEN THE CALL BEGINS. Each datum BY PROGRAM (the guide's laid-datum.mjs) off the statement by which the dump's own 'gosem.cut.vars' lays the variable. In a bare row this is a premise. The card (YbulksyqFmtCards.lean) ties it to the program's text. -/
def laid_example_com_warpline_warpline_formNames {H : Type} : DataW H := .agg [.lit (.string [108, 105, 110, 101, 115]), .lit (.string [106, 115, 111, 110])]

/-- 'store.LawS0965BExact': WHATEVER THE INPUT: true; the input reads as it did. -/
def lawS0965BExactSpec : ChangeSpec := { name := "lawS0965BExact", vars := ["example.com/warpline/warpline.formNames"], fn := fun _ => fun
  | [d, g1] => { results := [.lit (.bool true)], args := [d], vars := [g1] }
  | _ => none }
def lawS0965BExactRow : OpenClaim := { program := "ybulksyqfmt", sum := "bf2ca07af85d4aaff9762c700dbf06cf1ae7df9806eb25813bdd36d1a2b501c7", func := "example.com/warpline/warpline/internal/store.LawS0965BExact", spec := "lawS0965BExact", stops := ["fmt.Sprintf, its operands' methods called", "fmt.errorf, its operands' methods called"], inPlace := ["fmt.Sprintf"], unfollowed := true, recurses := true, named := ["example.com/warpline/warpline.formNames"], apart := false, laid := [("example.com/warpline/warpline.formNames", laid_example_com_warpline_warpline_formNames)] }
/-- NO THEOREM (fmt's text is open here; it may be false): for the released tool's asking of the row's closed facts alone. THE STATEMENT IS 'LawS0965BExactToldSaid' (YbulksyqFmtCards.lean). -/
def LawS0965BExactFormAsk : Prop := lawS0965BExactRow.holds Ybaf.pinned (OpenSpec.ofChange lawS0965BExactSpec)

/-- ITS FALSE NEIGHBOUR: 'it returns false'. Refute it at one input. -/
def lawS0965BExactWrong : ChangeSpec := { name := "lawS0965BExact", vars := ["example.com/warpline/warpline.formNames"], fn := fun _ => fun
  | [d, g1] => { results := [.lit (.bool false)], args := [d], vars := [g1] }
  | _ => none }
def LawS0965BExactWrongFormAsk : Prop := lawS0965BExactRow.holds Ybaf.pinned (OpenSpec.ofChange lawS0965BExactWrong)

/-- 'store.LawS0965BRoundTrip': WHATEVER THE INPUT: true; the input reads as it did. -/
def lawS0965BRoundTripSpec : ChangeSpec := { name := "lawS0965BRoundTrip", vars := ["example.com/warpline/warpline.formNames"], fn := fun _ => fun
  | [d, g1] => { results := [.lit (.bool true)], args := [d], vars := [g1] }
  | _ => none }
def lawS0965BRoundTripRow : OpenClaim := { program := "ybulksyqfmt", sum := "bf2ca07af85d4aaff9762c700dbf06cf1ae7df9806eb25813bdd36d1a2b501c7", func := "example.com/warpline/warpline/internal/store.LawS0965BRoundTrip", spec := "lawS0965BRoundTrip", stops := ["fmt.Sprintf, its operands' methods called", "fmt.errorf, its operands' methods called"], inPlace := ["fmt.Sprintf", "fmt.errorf"], unfollowed := true, recurses := true, named := ["example.com/warpline/warpline.formNames"], apart := false, laid := [("example.com/warpline/warpline.formNames", laid_example_com_warpline_warpline_formNames)] }
/-- NO THEOREM (fmt's text is open here; it may be false): for the released tool's asking of the row's closed facts alone. THE STATEMENT IS 'LawS0965BRoundTripToldSaid' (YbulksyqFmtCards.lean). -/
def LawS0965BRoundTripFormAsk : Prop := lawS0965BRoundTripRow.holds Ybaf.pinned (OpenSpec.ofChange lawS0965BRoundTripSpec)

/-- ITS FALSE NEIGHBOUR: 'it returns false'. Refute it at one input. -/
def lawS0965BRoundTripWrong : ChangeSpec := { name := "lawS0965BRoundTrip", vars := ["example.com/warpline/warpline.formNames"], fn := fun _ => fun
  | [d, g1] => { results := [.lit (.bool false)], args := [d], vars := [g1] }
  | _ => none }
def LawS0965BRoundTripWrongFormAsk : Prop := lawS0965BRoundTripRow.holds Ybaf.pinned (OpenSpec.ofChange lawS0965BRoundTripWrong)

end Rows
end Go.Proofs.YbulksyqFmt
