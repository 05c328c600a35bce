/-
  Seat b0970a: 'Rows.LawS0970CInOrderSaid': the row's step round the walk of YbulktbiMain.
-/
import Derived.Test.YbulktbiMain
import Derived.Test.YbulktbiOpsIn
namespace Go.Proofs.Ybulktbi
set_option linter.unusedSimpArgs false
open Go.ChangeShapes Go.WideShapes Go.ChangeAt Go.RowKit
set_option linter.unusedVariables false

theorem inOrder_own : ownKnob Yba.prog.godebug = none := by kernel_rfl
theorem inOrder_laidOut : laidOutB Yba.prog = true := by kernel_rfl

theorem inOrder_walk (c : Int) (a : Option Addr) (len cap : Nat) (fo fr fN : Nat → Int) (w : World) (hin : OpsIn w w.heap.size a len fo fr fN) (hw : (Lit.int .u8 c).wf = true) (hm : len ≤ maxLen) :
    Calls Yba.prog 5 #[.int .u8 c, .slice a len cap] w fun e w' => e = .returned (.bool true) ∧ Below w.heap.size w w' := by
  have hb : 0 ≤ c ∧ c ≤ 255 := by
    have := hw
    simp [Lit.wf, IntKind.min, IntKind.max, IntKind.signed, IntKind.bits] at this
    omega
  by_cases h : 512 < len
  · exact main_long c a len cap w h hm
  · exact main_short c a len cap fo fr fN w hin hb.1 hb.2 (by omega)

set_option maxRecDepth 100000 in
theorem inOrder_lifted (os : Os) (started : os.Started) (H : Type) (enc : TypeId × Value → H) :
    ReturnsInHanded {} Yba.checked os 5 .any (Rows.lawS0970CInOrderSpec.pre6 enc Yba.prog Yba.f5 Rows.lawS0970CInOrderRow.domain false) (Rows.lawS0970CInOrderSpec.post enc Yba.prog Yba.f5 false true false false) := by
  refine returnsInHanded_of_change (C := Yba.checked) inOrder_own started (by kernel_rfl) Yba.func5
    (ChangeSpec.witness6 (enc := enc) (C := Yba.checked) false ⟨#[], #[.int .u8 0, .slice none 0 0], []⟩ 8 (by kernel_rfl) (by kernel_rfl) (by kernel_rfl) (by kernel_rfl)) ?_
  intro W base args ds gs before hval0 hW hcnd _
  have hval : ∀ (j : Nat) t v, Yba.f5.params[j]? = some t → args[j]? = some v → Value.okWide Yba.prog W .any base t v := hval0
  have hW' := hW
  obtain ⟨p, q, hA0, hV, rfl, hfz, hnd⟩ := hW
  have hA : DataW.TrodAll enc Yba.prog W 0 (fun _ => true) true Yba.f5.params.toList args.toList ds p := hA0
  rw [Yba.params5] at hA hval
  obtain ⟨v0, vs0, d0, ds0, p0, q0, hargs, rfl, rfl, h0, r0⟩ := trodAll_cons hA
  obtain ⟨v1, vs1, d1, ds1, p1, q1, rfl, rfl, rfl, h1, r1⟩ := trodAll_cons r0
  obtain ⟨rfl, rfl, rfl⟩ := trodAll_nil r1
  obtain rfl : args = #[v0, v1] := by cases args; simp_all
  obtain ⟨rfl, rfl⟩ := trodVars_none hV
  obtain ⟨a0, rfl, rfl, rfl, w0⟩ := open_int Yba.underlying5 (hval 0 5 v0 rfl rfl) h0
  obtain ⟨a1, len1, cap1, rfl⟩ := okWide_slice Yba.underlying26 (hval 1 26 v1 rfl rfl)
  have k1 := h1
  have lt1 : ∀ x ∈ p1, x.block < W.heap.size := by obtain ⟨m, hm⟩ := k1; exact DataW.trod_lt m _ _ _ hm
  obtain ⟨fo, fr, fN, hm, hin⟩ := ops_of h1
  clear hA0 hval0
  refine (inOrder_walk a0 a1 len1 cap1 fo fr fN W hin w0 hm).mono fun e W' ⟨he, bel⟩ => ?_
  subst he
  exact ⟨_, rfl, _, _, _, [], _, [], hW', trodAll_mk1 (shut_bool Yba.underlying4 _), (trodAll_cons_mk (shut_int Yba.underlying5 w0) (trodAll_cons_mk (Below.trod inOrder_laidOut (by kernel_rfl) (of_decide_eq_true (by kernel_rfl)) k1 bel lt1) trodAll_mk0)), rfl, bel.frame _, fun h => by cases h⟩

theorem inOrder_over : Rows.lawS0970CInOrderRow.holds Yba.pinned (OpenSpec.ofChange Rows.lawS0970CInOrderSpec) :=
  OpenClaim.holds_of_wide 5 Yba.f5 rfl rfl rfl rfl rfl rfl rfl ⟨rfl, rfl, rfl, rfl, rfl⟩ rfl rfl rfl rfl rfl (by kernel_rfl) Yba.func5 (by kernel_rfl)
    (of_decide_eq_true (by kernel_rfl)) (by unfold Func.isWrapper; first | (rw [if_pos (by decide +kernel)]; kernel_rfl) | (rw [if_neg (by decide +kernel)]; exact ⟨rfl, rfl⟩))
    (fun os started H enc _ => inOrder_lifted os started H enc)

/-- THE STATEMENT. -/
theorem inOrder_proved : Rows.LawS0970CInOrderSaid := inOrder_over

end Go.Proofs.Ybulktbi
