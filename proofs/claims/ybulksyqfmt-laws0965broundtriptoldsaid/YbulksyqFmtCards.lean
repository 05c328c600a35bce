/-
  DERIVED. GIVEN WITH THE SEED: THE CARDS: each row of YbulksyqFmtRows.lean that lists a variable, with what it lists TIED to the program's text (the seventh form; the later family's looks); each row that meets fmt, with fmt's text TOLD by the authors' own Lean function (tested against real Go, not proved from fmt's source: count such statements apart). THE CARD IS WHAT COUNTS. Prove the row's statement (the work); the ties are given (YbulksyqFmtTie.lean); close each card by the builder's one call (the guide's Derived/Test/ToyasCard.lean, 'card_holds'). Laid BY PROGRAM, IN A SANDBOX (cutbox-door.mjs). By AI agents, Wed Nov 11 2026. No macro, syntax, notation, axiom, sorry.
-/
import Derived.Test.YbulksyqFmtRows
import GoSem.ClaimSeven
namespace Go.Proofs.YbulksyqFmt
namespace Rows

/-- THE TOLD AND TIED CARD OF 'store.LawS0965BExact'. -/
def lawS0965BExactCard : Claim7 := { stood := { row := lawS0965BExactRow, standIns := [], harness := (true, "a33b09fa83fd02864beb3c8be9698ca820a7c9715109a3e80deea2eac5f24385"), looks := false }, told := true, laidByText := true, laidKinds := [.data], laidTests := true, laidLooks := .later, goes := false }
def LawS0965BExactToldSaid : Prop := Claim7.holds Ybaf.pinned (.plain (OpenSpec.ofChange lawS0965BExactSpec)) lawS0965BExactCard
/-- ITS FALSE NEIGHBOUR. Refute it at one input. -/
def LawS0965BExactToldWrongFalsely : Prop := Claim7.holds Ybaf.pinned (.plain (OpenSpec.ofChange lawS0965BExactWrong)) lawS0965BExactCard

/-- THE TOLD AND TIED CARD OF 'store.LawS0965BRoundTrip'. -/
def lawS0965BRoundTripCard : Claim7 := { stood := { row := lawS0965BRoundTripRow, standIns := [], harness := (true, "a33b09fa83fd02864beb3c8be9698ca820a7c9715109a3e80deea2eac5f24385"), looks := false }, told := true, laidByText := true, laidKinds := [.data], laidTests := true, laidLooks := .later, goes := false }
def LawS0965BRoundTripToldSaid : Prop := Claim7.holds Ybaf.pinned (.plain (OpenSpec.ofChange lawS0965BRoundTripSpec)) lawS0965BRoundTripCard
/-- ITS FALSE NEIGHBOUR. Refute it at one input. -/
def LawS0965BRoundTripToldWrongFalsely : Prop := Claim7.holds Ybaf.pinned (.plain (OpenSpec.ofChange lawS0965BRoundTripWrong)) lawS0965BRoundTripCard
end Rows
end Go.Proofs.YbulksyqFmt
