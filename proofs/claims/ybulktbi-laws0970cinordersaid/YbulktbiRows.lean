/-
  No cell of these rows narrows 'for every input' (looked for: loops, veiled, ifaces, maps, wideKeys, modest, calm, conditions, laid).
  DERIVED. THE GIVEN ROWS OF THIS SEAT. 3 by the template 'for every input the law returns true; each argument reads behind the call as it read before'; 0 by the template 'total and deterministic' (their statements: YbulktbiTotals.lean).
  GIVEN WITH THE SEED: the statements are not yours to turn. If you find one false, say at which input.
  Laid BY PROGRAM, IN A SANDBOX (cutbox-rows.mjs): the forced cells as the released guide's own fill.sh prints them over the translation da6734085a16cfed… (all of the seat's roots in one cut). By AI agents, Wed Nov 11 2026. No macro, syntax, notation, axiom, sorry.
-/
import Derived.Test.YbulktbiChecked
import GoSem.Claim
import GoSem.ClaimJoined
import GoSem.ClaimMapViews
import Derived.JoinedTies
import Derived.KernelRfl
namespace Go.Proofs.Ybulktbi
/- THE CELL 'sum', in the pinned program and in every row, IS THE sha256 OF THE DUMP (.gsa) THAT YbulktbiProg.lean LOADS. Nothing in Lean hashes anything: it is a label: what it is worth is what the hold of that sum in a sandbox is worth. -/
noncomputable def Yba.pinned : Pinned := { name := "ybulktbi", sum := "da6734085a16cfed378fbb0de44c19e6fe7ddbbb8da687b2f0dc7802ab9fd0d1", checked := Yba.checked }
namespace Rows
def none {H : Type} : Left H := { results := [], args := [] }

/-- 'wire.LawS0970BBytes': WHATEVER THE INPUT: true; the input reads as it did. -/
def lawS0970BBytesSpec : ChangeSpec := { name := "lawS0970BBytes", fn := fun _ => fun
  | [d] => { results := [.lit (.bool true)], args := [d] }
  | _ => none }
def lawS0970BBytesRow : OpenClaim := { program := "ybulktbi", sum := "da6734085a16cfed378fbb0de44c19e6fe7ddbbb8da687b2f0dc7802ab9fd0d1", func := "example.com/suspicion/suspicion/internal/wire.LawS0970BBytes", spec := "lawS0970BBytes", apart := false }
def LawS0970BBytesSaid : Prop := lawS0970BBytesRow.holds Yba.pinned (OpenSpec.ofChange lawS0970BBytesSpec)

/-- ITS FALSE NEIGHBOUR: 'it returns false'. Refute it at one input. -/
def lawS0970BBytesWrong : ChangeSpec := { name := "lawS0970BBytes", fn := fun _ => fun
  | [d] => { results := [.lit (.bool false)], args := [d] }
  | _ => none }
def LawS0970BBytesWrongFalsely : Prop := lawS0970BBytesRow.holds Yba.pinned (OpenSpec.ofChange lawS0970BBytesWrong)

/-- 'wire.LawS0970BFresh': WHATEVER THE INPUT: true; the input reads as it did. -/
def lawS0970BFreshSpec : ChangeSpec := { name := "lawS0970BFresh", fn := fun _ => fun
  | [d] => { results := [.lit (.bool true)], args := [d] }
  | _ => none }
def lawS0970BFreshRow : OpenClaim := { program := "ybulktbi", sum := "da6734085a16cfed378fbb0de44c19e6fe7ddbbb8da687b2f0dc7802ab9fd0d1", func := "example.com/suspicion/suspicion/internal/wire.LawS0970BFresh", spec := "lawS0970BFresh", apart := false }
def LawS0970BFreshSaid : Prop := lawS0970BFreshRow.holds Yba.pinned (OpenSpec.ofChange lawS0970BFreshSpec)

/-- ITS FALSE NEIGHBOUR: 'it returns false'. Refute it at one input. -/
def lawS0970BFreshWrong : ChangeSpec := { name := "lawS0970BFresh", fn := fun _ => fun
  | [d] => { results := [.lit (.bool false)], args := [d] }
  | _ => none }
def LawS0970BFreshWrongFalsely : Prop := lawS0970BFreshRow.holds Yba.pinned (OpenSpec.ofChange lawS0970BFreshWrong)

/-- 'seqset.LawS0970CInOrder': WHATEVER THE INPUT: true; the input reads as it did. -/
def lawS0970CInOrderSpec : ChangeSpec := { name := "lawS0970CInOrder", fn := fun _ => fun
  | [d1, d2] => { results := [.lit (.bool true)], args := [d1, d2] }
  | _ => none }
def lawS0970CInOrderRow : OpenClaim := { program := "ybulktbi", sum := "da6734085a16cfed378fbb0de44c19e6fe7ddbbb8da687b2f0dc7802ab9fd0d1", func := "example.com/suspicion/suspicion/internal/seqset.LawS0970CInOrder", spec := "lawS0970CInOrder", unfollowed := true, recurses := true, apart := false }
def LawS0970CInOrderSaid : Prop := lawS0970CInOrderRow.holds Yba.pinned (OpenSpec.ofChange lawS0970CInOrderSpec)

/-- ITS FALSE NEIGHBOUR: 'it returns false'. Refute it at one input. -/
def lawS0970CInOrderWrong : ChangeSpec := { name := "lawS0970CInOrder", fn := fun _ => fun
  | [d1, d2] => { results := [.lit (.bool false)], args := [d1, d2] }
  | _ => none }
def LawS0970CInOrderWrongFalsely : Prop := lawS0970CInOrderRow.holds Yba.pinned (OpenSpec.ofChange lawS0970CInOrderWrong)

end Rows
end Go.Proofs.Ybulktbi
