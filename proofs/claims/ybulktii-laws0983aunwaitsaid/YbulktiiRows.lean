/-
  No cell of these rows narrows 'for every input' (looked for: loops, veiled, ifaces, maps, wideKeys, modest, calm, conditions, laid).
  DERIVED. THE GIVEN ROWS OF THIS SEAT. 1 by the template 'for every input the law returns true; each argument reads behind the call as it read before'; 0 by the template 'total and deterministic' (their statements: YbulktiiTotals.lean).
  GIVEN WITH THE SEED: the statements are not yours to turn. If you find one false, say at which input.
  Laid BY PROGRAM, IN A SANDBOX (cutbox-rows.mjs): the forced cells as the released guide's own fill.sh prints them over the translation a8830004f250899a… (all of the seat's roots in one cut). By AI agents, Wed Nov 11 2026. No macro, syntax, notation, axiom, sorry.
-/
import Derived.Test.YbulktiiChecked
import GoSem.Claim
import GoSem.ClaimJoined
import GoSem.ClaimMapViews
import Derived.JoinedTies
import Derived.KernelRfl
namespace Go.Proofs.Ybulktii
/- THE CELL 'sum', in the pinned program and in every row, IS THE sha256 OF THE DUMP (.gsa) THAT YbulktiiProg.lean LOADS. Nothing in Lean hashes anything: it is a label: what it is worth is what the hold of that sum in a sandbox is worth. -/
noncomputable def Yba.pinned : Pinned := { name := "ybulktii", sum := "a8830004f250899af6ccdd2f9f6f91607f109c101ccb024eb62cd0d9a2b34e46", checked := Yba.checked }
namespace Rows
def none {H : Type} : Left H := { results := [], args := [] }

/-- 'broker.LawS0983AUnwait': WHATEVER THE INPUT: true; the input reads as it did. -/
def lawS0983AUnwaitSpec : ChangeSpec := { name := "lawS0983AUnwait", fn := fun _ => fun
  | [d1, d2, d3] => { results := [.lit (.bool true)], args := [d1, d2, d3] }
  | _ => none }
def lawS0983AUnwaitRow : OpenClaim := { program := "ybulktii", sum := "a8830004f250899af6ccdd2f9f6f91607f109c101ccb024eb62cd0d9a2b34e46", func := "example.com/eager-relay/eager-relay/internal/broker.LawS0983AUnwait", spec := "lawS0983AUnwait", unfollowed := true, recurses := true, plainKeys := false, apart := false }
def LawS0983AUnwaitSaid : Prop := lawS0983AUnwaitRow.holds Yba.pinned (OpenSpec.ofChange lawS0983AUnwaitSpec)

/-- ITS FALSE NEIGHBOUR: 'it returns false'. Refute it at one input. -/
def lawS0983AUnwaitWrong : ChangeSpec := { name := "lawS0983AUnwait", fn := fun _ => fun
  | [d1, d2, d3] => { results := [.lit (.bool false)], args := [d1, d2, d3] }
  | _ => none }
def LawS0983AUnwaitWrongFalsely : Prop := lawS0983AUnwaitRow.holds Yba.pinned (OpenSpec.ofChange lawS0983AUnwaitWrong)

end Rows
end Go.Proofs.Ybulktii
