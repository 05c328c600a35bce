/-
  Seat b0965aF: what 'laid' says of formNames; a start that meets it; the text that fmt is told.
-/
import Derived.Test.YbulksyqFmtFacts
import Derived.Test.YbulksyqFmtTie
import Derived.ProofKit
import Derived.OpenShut
import Derived.ShutString
import Derived.ChangeVars
import Derived.LaidLaws
import Derived.Stop.JoinedAt
import Derived.Stop.Texts
import Derived.Stop.JoinedTold
import Derived.Stop.FmtTextKit
import Derived.Stop.FmtTextVerbs
import Derived.SizedLaws
namespace Go.Proofs.YbulksyqFmt
open Go.ChangeShapes Go.WideShapes Go.ChangeAt Go.RowKit Go.Kit
open Go.Extern.Stop Go.Stop Go.Extern

set_option linter.unusedVariables false
theorem ownF : ownKnob Ybaf.prog.godebug = none := by kernel_rfl
/-- The variable's name, as the given specification has it. -/
def vn : String := Rows.lawS0965BExactSpec.vars.headD ""
theorem gN : Ybaf.prog.globalNamed vn = some 0 := by kernel_rfl
theorem gNType : (Ybaf.prog.globals[0]?).map (·.type) = some 36 := by kernel_rfl
theorem cells36 : Ybaf.prog.cellsOf 36 = 2 := by kernel_rfl
theorem cells9 : Ybaf.prog.cellsOf 9 = 1 := by kernel_rfl

def linesB : ByteArray := ⟨#[108, 105, 110, 101, 115]⟩
def cells2 : Array Value := #[.string linesB, .string jsonB]

def laidL : List (String × DataW Unit) := [(vn, Rows.laid_example_com_warpline_warpline_formNames)]

theorem cells_of_laid {W : World} (h : laidMet Ybaf.prog laidL W) : W.var? Ybaf.prog vn = some cells2 := by
  obtain ⟨ps, ⟨g, t, cs, fuel, p, q, hg, ht, hvar, hd, _, _⟩, _⟩ := h
  obtain rfl := Option.some.inj (gN.symm.trans hg)
  obtain rfl := Option.some.inj (gNType.symm.trans ht)
  rw [hvar]
  congr 1
  obtain ⟨l⟩ := cs
  obtain ⟨xs, m, rfl, hx, hl, hxl, hi⟩ := DataW.trod_array Ybaf.underlying36 hd
  rw [cells36] at hl
  simp only [cells9] at hi
  obtain ⟨c0, c1, rfl⟩ : ∃ c0 c1, l = [c0, c1] := by
    match l, hl with
    | [a, b], _ => exact ⟨a, b, rfl⟩
  have h0 := hi 0 (by decide)
  have h1 := hi 1 (by decide)
  obtain ⟨y0, y1, rfl⟩ : ∃ y0 y1, xs = [y0, y1] := by
    match xs, hxl with
    | [a, b], _ => exact ⟨a, b, rfl⟩
  simp at h0 h1
  obtain ⟨s0, e0, rfl, _⟩ := DataW.trod_string Ybaf.underlying9 h0
  obtain ⟨s1, e1, rfl, _⟩ := DataW.trod_string Ybaf.underlying9 h1
  simp at e0 e1
  subst e0 e1
  simp [Rows.laid_example_com_warpline_warpline_formNames] at hx
  obtain ⟨⟨q0, q1⟩, _⟩ := hx
  have r0 : s0 = linesB := by
    cases s0 with | mk d => cases d with | mk l => simp at q0; subst q0; rfl
  have r1 : s1 = jsonB := by
    cases s1 with | mk d => cases d with | mk l => simp at q1; subst q1; rfl
  rw [r0, r1]
  rfl

/-- A start: formNames as its initialiser lays it. -/
def laidWorld (P : Program) (os : Os) : World :=
  { World.holding P os ⟨#[], #[], []⟩ with heap := (World.holding P os ⟨#[], #[], []⟩).heap.modify 0 fun
      | .cells _ t frozen => .cells cells2 t frozen
      | o => o }

theorem laidWorld_met (os : Os) (args : Array Value) : laidMet Ybaf.prog laidL ((laidWorld Ybaf.prog os).forCall (fun _ _ => 0) ⟨#[], args, []⟩).memory :=
  laidMet_of_run (ps := [.cell 0 0, .cell 0 1]) 8 (by kernel_rfl) (by kernel_rfl) (by kernel_rfl)

def namesH {H : Type} : DataW H := .agg [.lit (.string [108, 105, 110, 101, 115]), .lit (.string [106, 115, 111, 110])]
theorem reads_names {H : Type} (enc : TypeId × Value → H) (W : World) (sp : Nat → Bool) : DataW.trod enc Ybaf.prog W 0 sp true 3 36 cells2.toList = some (namesH, []) := by kernel_rfl

-- the one format
theorem t_parse : (FmtText.parse [70, 111, 114, 109, 40, 37, 100, 41]).map FmtText.glue = some [.lit [70, 111, 114, 109, 40], .verb {} 100, .lit [41]] := by rfl

theorem t_text (n : Int) (hw : (Lit.int .u8 n).wf = true) : FmtText.text "fmt.Sprintf" (reading n) = some ([70, 111, 114, 109, 40] ++ Lib.itoa n ++ [41]) := by
  have hi := FmtText.operand_int_at (sh := shape22) (k := .u8) rfl rfl n hw
  rw [reading, FmtText.text_sprintf_glued t_parse (FmtText.operands_cons hi FmtText.operands_nil)]
  simp [FmtText.render, FmtText.printArg_d _ _ hw]

theorem t_sizes (F : Interp) (n : Int) (hw : (Lit.int .u8 n).wf = true) : (FmtStop.textOf (F.told "fmt.Sprintf" (reading n) 0)).size ≤ 1000 ∧ 0 < (FmtStop.textOf (F.told "fmt.Sprintf" (reading n) 0)).size := by
  have hl := FmtText.itoa_length_le hw
  have ht := told_string F (t_text n hw) (by simp; omega)
  have e := textOf_list F.told "fmt.Sprintf" (reading n)
  rw [ht] at e
  generalize FmtStop.textOf (F.told "fmt.Sprintf" (reading n) 0) = s at e
  have e2 : s.size = s.data.toList.length := Array.length_toList.symm
  rw [e2, e]
  simp only [List.length_append, List.length_cons, List.length_nil]
  omega

end Go.Proofs.YbulksyqFmt
