/-
  Seat b0965aF: 'Rows.LawS0965BExactToldSaid': the told and tied card.
-/
import Derived.Test.YbulksyqFmtExact
import Derived.Test.YbulksyqFmtLaid
import Derived.Test.YbulksyqFmtCards
import Derived.SevenTiedAt
namespace Go.Proofs.YbulksyqFmt
open Go.ChangeShapes Go.WideShapes Go.ChangeAt Go.RowKit Go.Kit
open Go.Extern.Stop Go.Stop Go.Extern

set_option linter.unusedVariables false
theorem laidOutF : laidOutB Ybaf.pinned.checked.prog = true := by kernel_rfl
theorem stopsF : Ybaf.pinned.checked.prog.stops = Rows.lawS0965BExactRow.stops := by kernel_rfl
theorem stopKnobsF : Ybaf.pinned.checked.prog.stopKnobs = [] := by kernel_rfl
theorem quietF (os : Os) : Stop.quiet Ybaf.pinned.checked.prog os := by
  intro k hk
  rw [stopKnobsF] at hk
  cases hk

theorem exact_walk (F : Interp) (n : Int) (w : World) (hF : F.told.answers w.tape) (hw : (Lit.int .u8 n).wf = true) (hc : w.cell? ⟨0, 1, none⟩ = some (.string jsonB)) :
    Calls Ybaf.prog 3 #[.int .u8 n] w fun e w' => e = .returned (.bool true) ∧ Below w.heap.size w w' := by
  have hb : 0 ≤ n ∧ n ≤ 255 := by
    have := hw
    simp [Lit.wf, IntKind.min, IntKind.max, IntKind.signed, IntKind.bits] at this
    omega
  by_cases h0 : n = 0
  · subst h0; exact exact_zero w
  · by_cases h1 : n = 1
    · subst h1; exact exact_one w hc
    · have ht := t_sizes F n hw
      exact exact_big F.told n w hF (by omega) (by omega) _ rfl ht.1 ht.2

set_option maxRecDepth 100000 in
theorem exact_lifted (os : Os) (started : os.Started) (H : Type) (enc : TypeId × Value → H) :
    ReturnsInTold none {} Ybaf.checked os 3 .any Input.okWide ((OpenSpec.ofChange Rows.lawS0965BExactSpec).preRow enc Ybaf.prog Ybaf.f3 [] false Rows.lawS0965BExactRow.laid)
      (fun F => ((OpenSpec.ofChange Rows.lawS0965BExactSpec).at F).post enc Ybaf.prog Ybaf.f3 false true false false) (aloneAtReturn Ybaf.prog) nothingAlways := by
  refine returnsInTold_of_row (C := Ybaf.checked) (s := OpenSpec.ofChange Rows.lawS0965BExactSpec) (by kernel_rfl) ownF started (by kernel_rfl) Ybaf.func3
    (OpenSpec.witness_stopped_at (enc := enc) (C := Ybaf.checked) false (laidWorld Ybaf.prog os) #[.int .u8 0] rfl (by kernel_rfl) (by kernel_rfl) (by kernel_rfl)
      (OpenSpec.preRow_of_B rfl 8 (by kernel_rfl) (by kernel_rfl) (laidWorld_met os _))) ?_
  intro F W base args ds gs before _ hF hval0 hW _ _ _ hL _
  have hval : ∀ (j : Nat) t v, Ybaf.f3.params[j]? = some t → args[j]? = some v → Value.okWide Ybaf.prog W .any base t v := hval0
  have hW' := hW
  obtain ⟨p, q, hA0, hV0, rfl, hfz, hnd⟩ := hW
  have hA : DataW.TrodAll enc Ybaf.prog W 0 (fun _ => true) true Ybaf.f3.params.toList args.toList ds p := hA0
  have hV : DataW.TrodVars enc Ybaf.prog W (fun _ => true) [vn] gs q := hV0
  rw [Ybaf.params3] at hA hval
  obtain ⟨v0, d0, rfl, rfl, h0⟩ := trodAll_one hA
  obtain ⟨n, rfl, rfl, rfl, wn⟩ := open_int Ybaf.underlying5 (hval 0 5 v0 rfl rfl) h0
  obtain ⟨g, t, cs, fuel, d, p', rfl, hg, ht, hvar, hd, rfl⟩ := trodVars_one hV
  obtain rfl := Option.some.inj (gN.symm.trans hg)
  obtain rfl := Option.some.inj (gNType.symm.trans ht)
  obtain rfl : cs = cells2 := Option.some.inj (hvar.symm.trans (cells_of_laid hL))
  obtain ⟨rfl, rfl⟩ := DataW.Trod.unique (v := .agg cells2) ⟨fuel, hd⟩ ⟨3, reads_names enc W _⟩
  clear hA0 hV0 hval0
  have h1 : W.cell? ⟨0, 1, none⟩ = some (.string jsonB) := World.var?_cell hg hvar 1
  have hgB : 0 < W.heap.size := World.block_lt_of_cell? W _ h1
  refine (exact_walk F n W hF wn h1).mono fun e W' ⟨he, bel⟩ => ?_
  subst he
  refine ⟨_, rfl, _, _, _, [], [], MemPlace.row ⟨0, 0, none⟩ cells2.size ++ [], hW', ?_, ?_, ?_, bel.frame _, fun h => by cases h⟩
  · exact trodAll_mk1 (shut_bool Ybaf.underlying4 true)
  · exact trodAll_mk1 (shut_int Ybaf.underlying5 wn)
  · exact trodVars_mk1 hg ht (var?_below bel hg hgB hvar) (reads_names enc W' _)

theorem exact_card : Claim7.holds Ybaf.pinned (.plain (OpenSpec.ofChange Rows.lawS0965BExactSpec)) (Claim7.toldTiedRowAt .later Rows.lawS0965BExactRow (true, "a33b09fa83fd02864beb3c8be9698ca820a7c9715109a3e80deea2eac5f24385") false false [.data] true) :=
  Claim7.holds_of_told_tied_any_at .later 3 Ybaf.f3 _ _ [] _ _ _ _ _ (by kernel_rfl) rfl rfl rfl laidOutF (by kernel_rfl) rfl ⟨rfl, rfl, rfl, rfl, rfl, rfl, rfl⟩ rfl rfl (by kernel_rfl) (by kernel_rfl) Ybaf.func3 (by kernel_rfl)
    (of_decide_eq_true (by kernel_rfl)) (of_decide_eq_true (by kernel_rfl)) stopsF.symm rfl stopKnobsF.symm (by kernel_rfl)
    (by kernel_rfl) (by kernel_rfl) (by kernel_rfl) (by kernel_rfl) (by kernel_rfl) (by kernel_rfl) (by kernel_rfl) (by kernel_rfl) (by kernel_rfl) rfl (by kernel_rfl) rfl rfl
    rfl rfl
    rfl (by kernel_rfl) (by kernel_rfl) (by kernel_rfl) (by decide) (by kernel_rfl) lawS0965BExact_row_tie
    (OpenClaim.moreEntering_of (by kernel_rfl) (by kernel_rfl) (by kernel_rfl) (by kernel_rfl) (by kernel_rfl) (by kernel_rfl) (by kernel_rfl) (by kernel_rfl) (by kernel_rfl) (by kernel_rfl))
    ⟨_, WideRow.started_initial, quietF _⟩
    (fun os started _ H enc _ => exact_lifted os started H enc)

/-- THE STATEMENT. -/
theorem exact_proved : Rows.LawS0965BExactToldSaid := exact_card

end Go.Proofs.YbulksyqFmt
