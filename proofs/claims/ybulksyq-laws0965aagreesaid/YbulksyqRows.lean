/-
  No cell of these rows narrows 'for every input' (looked for: loops, veiled, ifaces, maps, wideKeys, modest, calm, conditions, laid).
  DERIVED. THE GIVEN ROWS OF THIS SEAT. 2 by the template 'for every input the law returns true; each argument reads behind the call as it read before'; 0 by the template 'total and deterministic' (their statements: YbulksyqTotals.lean).
  GIVEN WITH THE SEED: the statements are not yours to turn. If you find one false, say at which input.
  Laid BY PROGRAM, IN A SANDBOX (cutbox-rows.mjs): the forced cells as the released guide's own fill.sh prints them over the translation 80dd30383c535941… (all of the seat's roots in one cut). By AI agents, Wed Nov 11 2026. No macro, syntax, notation, axiom, sorry.
-/
import Derived.Test.YbulksyqChecked
import GoSem.Claim
import GoSem.ClaimJoined
import GoSem.ClaimMapViews
import Derived.JoinedTies
import Derived.KernelRfl
namespace Go.Proofs.Ybulksyq
/- THE CELL 'sum', in the pinned program and in every row, IS THE sha256 OF THE DUMP (.gsa) THAT YbulksyqProg.lean LOADS. Nothing in Lean hashes anything: it is a label: what it is worth is what the hold of that sum in a sandbox is worth. -/
noncomputable def Yba.pinned : Pinned := { name := "ybulksyq", sum := "80dd30383c5359413ce2b9a1d171d2f52371e5af9d406d8f57f39a71d0165ea2", checked := Yba.checked }
namespace Rows
def none {H : Type} : Left H := { results := [], args := [] }

/-- 'warpline.LawS0965AIds': WHATEVER THE INPUT: true; the input reads as it did. -/
def lawS0965AIdsSpec : ChangeSpec := { name := "lawS0965AIds", fn := fun _ => fun
  | [d] => { results := [.lit (.bool true)], args := [d] }
  | _ => none }
def lawS0965AIdsRow : OpenClaim := { program := "ybulksyq", sum := "80dd30383c5359413ce2b9a1d171d2f52371e5af9d406d8f57f39a71d0165ea2", func := "example.com/warpline/warpline.LawS0965AIds", spec := "lawS0965AIds", apart := false }
def LawS0965AIdsSaid : Prop := lawS0965AIdsRow.holds Yba.pinned (OpenSpec.ofChange lawS0965AIdsSpec)

/-- ITS FALSE NEIGHBOUR: 'it returns false'. Refute it at one input. -/
def lawS0965AIdsWrong : ChangeSpec := { name := "lawS0965AIds", fn := fun _ => fun
  | [d] => { results := [.lit (.bool false)], args := [d] }
  | _ => none }
def LawS0965AIdsWrongFalsely : Prop := lawS0965AIdsRow.holds Yba.pinned (OpenSpec.ofChange lawS0965AIdsWrong)

/-- 'warpline.LawS0965AAgree': WHATEVER THE INPUT: true; the input reads as it did. -/
def lawS0965AAgreeSpec : ChangeSpec := { name := "lawS0965AAgree", fn := fun _ => fun
  | [d] => { results := [.lit (.bool true)], args := [d] }
  | _ => none }
def lawS0965AAgreeRow : OpenClaim := { program := "ybulksyq", sum := "80dd30383c5359413ce2b9a1d171d2f52371e5af9d406d8f57f39a71d0165ea2", func := "example.com/warpline/warpline.LawS0965AAgree", spec := "lawS0965AAgree", unfollowed := true, recurses := true, apart := false }
def LawS0965AAgreeSaid : Prop := lawS0965AAgreeRow.holds Yba.pinned (OpenSpec.ofChange lawS0965AAgreeSpec)

/-- ITS FALSE NEIGHBOUR: 'it returns false'. Refute it at one input. -/
def lawS0965AAgreeWrong : ChangeSpec := { name := "lawS0965AAgree", fn := fun _ => fun
  | [d] => { results := [.lit (.bool false)], args := [d] }
  | _ => none }
def LawS0965AAgreeWrongFalsely : Prop := lawS0965AAgreeRow.holds Yba.pinned (OpenSpec.ofChange lawS0965AAgreeWrong)

end Rows
end Go.Proofs.Ybulksyq
