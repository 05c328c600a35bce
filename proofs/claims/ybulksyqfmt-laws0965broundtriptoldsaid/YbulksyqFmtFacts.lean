/-
  Seat b0965aF: closed facts for the walk over fmt's stopped front Sprintf (function 13) at its one format, and the contracts of '(Form).String' (function 8) and 'formatLine' (function 5).
-/
import Derived.Test.YbulksyqFmtRows
import Derived.WalkKit
import Derived.WalkLawsBesides
import Derived.WalkSpells
import Derived.Stop.CallBack
import Derived.Stop.IfaceNil
import GoSem.ClaimData
namespace Go.Proofs.YbulksyqFmt
open Go.RowKit Go.Extern.Stop Go.Stop Go.Extern

set_option linter.unusedVariables false
theorem call13 (args : Array Value) (w : World) : (callFunc 13 args).run Ybaf.prog w = (FmtCalls.sprintf #[9, 40] #[9] args).run Ybaf.prog w :=
  run_callFunc_next Ybaf.func13 (by kernel_rfl) (by kernel_rfl) (by kernel_rfl) args w
theorem guardF (name : String) (w : World) : (FmtStop.guard name).run Ybaf.prog w = .ok () w := by kernel_rfl
theorem nextTurns : Extern.next FmtCalls.turnsRow = some (FmtCalls.begun #[] #[]) := by kernel_rfl
-- the one format, 1 operand
theorem fmt0 : FmtStop.printed? ⟨#[70, 111, 114, 109, 40, 37, 100, 41]⟩ 1 = some [(0, 100, false)] := by kernel_rfl
theorem fmt0r (w : World) : (FmtDoors.printed ⟨#[70, 111, 114, 109, 40, 37, 100, 41]⟩ 1).run Ybaf.prog w = .ok [(0, 100, false)] w := by kernel_rfl
-- type 22: warpline.Form
def shape22 : List UInt8 := [6, 13, 0, 0, 0, 0, 0, 0, 0, 119, 97, 114, 112, 108, 105, 110, 101, 46, 70, 111, 114, 109]
theorem act22_100 (name : String) (x : Value) (w : World) : (FmtCalls.act name false 100 false (.iface 22 x)).run Ybaf.prog w = .ok (.closed false) w := by kernel_rfl
theorem op22_100 (name : String) (x : Int) (w : World) : (FmtStop.operand name false 100 false (.iface 22 (.int .u8 x))).run Ybaf.prog w = .ok (shape22, Go.Extern.Stop.digits 8 (x % 2 ^ 64).toNat) w := by kernel_rfl

attribute [local go_sem] call13 guardF fmt0 fmt0r act22_100 op22_100

/-- What Sprintf is asked. -/
def reading (n : Int) : List (List UInt8) := [[70, 111, 114, 109, 40, 37, 100, 41], shape22, digits 8 (n % 18446744073709551616).toNat]

set_option maxHeartbeats 800000 in
theorem string_big (F : Interp) (n : Int) (w : World) (hF : F.answers w.tape) (h0 : 2 ≤ n) (h1 : n ≤ 255) :
    Calls Ybaf.prog 8 #[.int .u8 n] w fun e w' => e = .returned (.string (FmtStop.textOf (F "fmt.Sprintf" (reading n) 0))) ∧ Below w.heap.size w w' := by
  have hF' := answers_open hF
  go_enter Ybaf.func8, Ybaf.ntmps8
  go_wp2
  apply rows_value nextTurns
  case hr =>
    go_simp
    exact ⟨rfl, rfl⟩
  case h =>
    go_wp2
    go_ret
    exact ⟨rfl, ((Below.refl _ _).alloc (Nat.le_refl _) _).drew⟩

def jsonB : ByteArray := ⟨#[106, 115, 111, 110]⟩
def line0 : ByteArray := ⟨#[119, 97, 114, 112, 108, 105, 110, 101, 32, 115, 116, 111, 114, 101, 32, 49, 10]⟩
def line1 : ByteArray := ⟨#[119, 97, 114, 112, 108, 105, 110, 101, 32, 115, 116, 111, 114, 101, 32, 49, 32, 106, 115, 111, 110, 10]⟩
def pre17 : ByteArray := ⟨#[119, 97, 114, 112, 108, 105, 110, 101, 32, 115, 116, 111, 114, 101, 32, 49, 32]⟩

set_option maxHeartbeats 800000 in
theorem string_one (w : World) (hc : w.cell? ⟨0, 1, none⟩ = some (.string jsonB)) :
    Calls Ybaf.prog 8 #[.int .u8 1] w fun e w' => e = .returned (.string jsonB) ∧ w = w' := by
  go_enter Ybaf.func8, Ybaf.ntmps8
  go_wp2
  go_ret
  exact ⟨rfl, rfl⟩

set_option maxHeartbeats 800000 in
theorem line_zero (w : World) : Calls Ybaf.prog 5 #[.int .u8 0] w fun e w' => e = .returned (.string line0) ∧ w = w' := by
  go_enter Ybaf.func5, Ybaf.ntmps5
  go_wp2
  go_ret
  exact ⟨rfl, rfl⟩

set_option maxHeartbeats 800000 in
theorem line_one (w : World) (hc : w.cell? ⟨0, 1, none⟩ = some (.string jsonB)) : Calls Ybaf.prog 5 #[.int .u8 1] w fun e w' => e = .returned (.string line1) ∧ w = w' := by
  go_enter Ybaf.func5, Ybaf.ntmps5
  go_wp2_with fail
  refine (string_one w hc).mono ?_
  rintro e w' ⟨rfl, rfl⟩
  unfold jsonB
  go_wp2
  go_ret
  exact ⟨rfl, rfl⟩

set_option maxHeartbeats 800000 in
theorem line_big (F : Interp) (n : Int) (w : World) (hF : F.answers w.tape) (h0 : 2 ≤ n) (h1 : n ≤ 255) (s : ByteArray) (hs : FmtStop.textOf (F "fmt.Sprintf" (reading n) 0) = s) (hz : s.size ≤ 1000) :
    Calls Ybaf.prog 5 #[.int .u8 n] w fun e w' => e = .returned (.string (pre17 ++ s ++ ⟨#[10]⟩)) ∧ Below w.heap.size w w' := by
  have hn : (n == 0) = false := by simp; omega
  go_enter Ybaf.func5, Ybaf.ntmps5
  go_wp2_with fail
  refine (string_big F n w hF h0 h1).mono ?_
  rintro e w' ⟨rfl, hb⟩
  rw [hs]
  go_wp2
  go_ret
  exact ⟨rfl, hb⟩

end Go.Proofs.YbulksyqFmt
