/-
  Seat b0965aF: 'Rows.LawS0965BRoundTripToldSaid': the told and tied card.
-/
import Derived.Test.YbulksyqFmtTrip
import Derived.Test.YbulksyqFmtLaid
import Derived.Test.YbulksyqFmtCards
import Derived.SevenTiedAt
namespace Go.Proofs.YbulksyqFmt
open Go.ChangeShapes Go.WideShapes Go.ChangeAt Go.RowKit Go.Kit
open Go.Extern.Stop Go.Stop Go.Extern
set_option linter.unusedVariables false

theorem laidOutT : laidOutB Ybaf.pinned.checked.prog = true := by kernel_rfl
theorem stopsT : Ybaf.pinned.checked.prog.stops = Rows.lawS0965BRoundTripRow.stops := by kernel_rfl
theorem stopKnobsT : Ybaf.pinned.checked.prog.stopKnobs = [] := by kernel_rfl
theorem quietT (os : Os) : Stop.quiet Ybaf.pinned.checked.prog os := by
  intro k hk
  rw [stopKnobsT] at hk
  cases hk

theorem trip_walk (n : Int) (w : World) (hw : (Lit.int .u8 n).wf = true) (h0 : w.cell? ⟨0, 0, none⟩ = some (.string linesS)) (h1 : w.cell? ⟨0, 1, none⟩ = some (.string jsonB)) (hz : 0 < w.heap.size) :
    Calls Ybaf.prog 4 #[.int .u8 n] w fun e w' => e = .returned (.bool true) ∧ Below w.heap.size w w' := by
  have hb : 0 ≤ n ∧ n ≤ 255 := by
    have := hw
    simp [Lit.wf, IntKind.min, IntKind.max, IntKind.signed, IntKind.bits] at this
    omega
  by_cases h : n % 2 = 0
  · exact trip_even n w h hb.1 hb.2
  · exact trip_odd n w (by omega) hb.1 hb.2 h0 h1 hz

set_option maxRecDepth 100000 in
theorem trip_lifted (os : Os) (started : os.Started) (H : Type) (enc : TypeId × Value → H) :
    ReturnsInTold none {} Ybaf.checked os 4 .any Input.okWide ((OpenSpec.ofChange Rows.lawS0965BRoundTripSpec).preRow enc Ybaf.prog Ybaf.f4 [] false Rows.lawS0965BRoundTripRow.laid)
      (fun F => ((OpenSpec.ofChange Rows.lawS0965BRoundTripSpec).at F).post enc Ybaf.prog Ybaf.f4 false true false false) (aloneAtReturn Ybaf.prog) nothingAlways := by
  refine returnsInTold_of_row (C := Ybaf.checked) (s := OpenSpec.ofChange Rows.lawS0965BRoundTripSpec) (by kernel_rfl) ownF started (by kernel_rfl) Ybaf.func4
    (OpenSpec.witness_stopped_at (enc := enc) (C := Ybaf.checked) false (laidWorld Ybaf.prog os) #[.int .u8 0] rfl (by kernel_rfl) (by kernel_rfl) (by kernel_rfl)
      (OpenSpec.preRow_of_B rfl 8 (by kernel_rfl) (by kernel_rfl) (laidWorld_met os _))) ?_
  intro F W base args ds gs before _ hF hval0 hW _ _ _ hL _
  have hval : ∀ (j : Nat) t v, Ybaf.f4.params[j]? = some t → args[j]? = some v → Value.okWide Ybaf.prog W .any base t v := hval0
  have hW' := hW
  obtain ⟨p, q, hA0, hV0, rfl, hfz, hnd⟩ := hW
  have hA : DataW.TrodAll enc Ybaf.prog W 0 (fun _ => true) true Ybaf.f4.params.toList args.toList ds p := hA0
  have hV : DataW.TrodVars enc Ybaf.prog W (fun _ => true) [vn] gs q := hV0
  rw [Ybaf.params4] at hA hval
  obtain ⟨v0, d0, rfl, rfl, h0⟩ := trodAll_one hA
  obtain ⟨n, rfl, rfl, rfl, wn⟩ := open_int Ybaf.underlying5 (hval 0 5 v0 rfl rfl) h0
  obtain ⟨g, t, cs, fuel, d, p', rfl, hg, ht, hvar, hd, rfl⟩ := trodVars_one hV
  obtain rfl := Option.some.inj (gN.symm.trans hg)
  obtain rfl := Option.some.inj (gNType.symm.trans ht)
  obtain rfl : cs = cells2 := Option.some.inj (hvar.symm.trans (cells_of_laid hL))
  obtain ⟨rfl, rfl⟩ := DataW.Trod.unique (v := .agg cells2) ⟨fuel, hd⟩ ⟨3, reads_names enc W _⟩
  clear hA0 hV0 hval0
  have h1 : W.cell? ⟨0, 1, none⟩ = some (.string jsonB) := World.var?_cell hg hvar 1
  have hgB : 0 < W.heap.size := World.block_lt_of_cell? W _ h1
  have h00 : W.cell? ⟨0, 0, none⟩ = some (.string linesS) := World.var?_cell hg hvar 0
  refine (trip_walk n W wn h00 h1 hgB).mono fun e W' ⟨he, bel⟩ => ?_
  subst he
  refine ⟨_, rfl, _, _, _, [], [], MemPlace.row ⟨0, 0, none⟩ cells2.size ++ [], hW', ?_, ?_, ?_, bel.frame _, fun h => by cases h⟩
  · exact trodAll_mk1 (shut_bool Ybaf.underlying4 true)
  · exact trodAll_mk1 (shut_int Ybaf.underlying5 wn)
  · exact trodVars_mk1 hg ht (var?_below bel hg hgB hvar) (reads_names enc W' _)

theorem trip_card : Claim7.holds Ybaf.pinned (.plain (OpenSpec.ofChange Rows.lawS0965BRoundTripSpec)) (Claim7.toldTiedRowAt .later Rows.lawS0965BRoundTripRow (true, "a33b09fa83fd02864beb3c8be9698ca820a7c9715109a3e80deea2eac5f24385") false false [.data] true) :=
  Claim7.holds_of_told_tied_any_at .later 4 Ybaf.f4 _ _ [] _ _ _ _ _ (by kernel_rfl) rfl rfl rfl laidOutT (by kernel_rfl) rfl ⟨rfl, rfl, rfl, rfl, rfl, rfl, rfl⟩ rfl rfl (by kernel_rfl) (by kernel_rfl) Ybaf.func4 (by kernel_rfl)
    (of_decide_eq_true (by kernel_rfl)) (of_decide_eq_true (by kernel_rfl)) stopsT.symm rfl stopKnobsT.symm (by kernel_rfl)
    (by kernel_rfl) (by kernel_rfl) (by kernel_rfl) (by kernel_rfl) (by kernel_rfl) (by kernel_rfl) (by kernel_rfl) (by kernel_rfl) (by kernel_rfl) rfl (by kernel_rfl) rfl rfl
    rfl rfl
    rfl (by kernel_rfl) (by kernel_rfl) (by kernel_rfl) (by decide) (by kernel_rfl) lawS0965BRoundTrip_row_tie
    (OpenClaim.moreEntering_of (by kernel_rfl) (by kernel_rfl) (by kernel_rfl) (by kernel_rfl) (by kernel_rfl) (by kernel_rfl) (by kernel_rfl) (by kernel_rfl) (by kernel_rfl) (by kernel_rfl))
    ⟨_, WideRow.started_initial, quietT _⟩
    (fun os started _ H enc _ => trip_lifted os started H enc)

/-- THE STATEMENT. -/
theorem trip_proved : Rows.LawS0965BRoundTripToldSaid := trip_card

end Go.Proofs.YbulksyqFmt
