/-
  Seat b0970a, LawS0970CInOrder: from the reading of the script to what the walk is told of it.
-/
import Derived.Test.YbulktbiRows
import Derived.WalkKit
import Derived.ProofKit
import Derived.OpenShut
import Derived.ShutString
import Derived.ChangeOld
import Derived.Deep.Slices
import Derived.Deep.Strs
namespace Go.Proofs.Ybulktbi
set_option linter.unusedSimpArgs false
open Go.ChangeShapes Go.WideShapes Go.ChangeAt Go.RowKit Go.Deep
set_option linter.unusedVariables false

theorem cells34 : Yba.prog.cellsOf 34 = 3 := by kernel_rfl
theorem cells5 : Yba.prog.cellsOf 5 = 1 := by kernel_rfl
theorem cells29 : Yba.prog.cellsOf 29 = 1 := by kernel_rfl

theorem ops_of {W : World} {a0 : Option Addr} {len0 cap0 : Nat} {H : Type} {enc : TypeId × Value → H} {d : DataW H} {p : List MemPlace}
    (h : DataW.Trod enc Yba.prog W 0 (fun _ => true) true 26 (.slice a0 len0 cap0) d p) :
    ∃ fo fr fN : Nat → Int, len0 ≤ maxLen ∧ ∀ j, j < len0 → 0 ≤ fo j ∧ fo j ≤ 255 ∧ 0 ≤ fr j ∧ fr j ≤ 255 ∧ ∃ b off, a0 = some ⟨b, off, none⟩ ∧ b < W.heap.size ∧
      W.cell? ⟨b, off + j * 3, none⟩ = some (.int .u8 (fo j)) ∧ W.cell? ⟨b, off + j * 3 + 1, none⟩ = some (.int .u8 (fr j)) ∧ W.cell? ⟨b, off + j * 3 + 2, none⟩ = some (.int .u64 (fN j)) := by
  obtain ⟨fuel, hf⟩ := h
  rcases open_slice Yba.underlying26 hf with ⟨hcs, _⟩ | ⟨a, len, cap, m, n, D, Pl, hcs, _, hl, hm, hmm, _, hel⟩
  · simp [Value.cells] at hcs
    obtain ⟨rfl, rfl, rfl⟩ := hcs
    exact ⟨fun _ => 0, fun _ => 0, fun _ => 0, by unfold maxLen; omega, fun j hj => by omega⟩
  · simp [Value.cells] at hcs
    obtain ⟨rfl, rfl, rfl⟩ := hcs
    simp at hmm
    have each : ∀ i, i < len0 → ∃ z : Int × Int × Int, (0 ≤ z.1 ∧ z.1 ≤ 255) ∧ (0 ≤ z.2.1 ∧ z.2.1 ≤ 255) ∧ ∃ b off, some a = some (⟨b, off, none⟩ : Addr) ∧ b < W.heap.size ∧
        W.cell? ⟨b, off + i * 3, none⟩ = some (.int .u8 z.1) ∧ W.cell? ⟨b, off + i * 3 + 1, none⟩ = some (.int .u8 z.2.1) ∧ W.cell? ⟨b, off + i * 3 + 2, none⟩ = some (.int .u64 z.2.2) := by
      intro i hi
      obtain ⟨cs', hc, ht⟩ := hel i (by omega)
      rw [cells34] at hc
      obtain ⟨y0, y1, y2, m', _, hlen, h0, h1, h2⟩ := trod_struct3 Yba.underlying34 ht
      rw [cells34] at hlen
      obtain ⟨c0, c1, c2, rfl⟩ : ∃ c0 c1 c2, cs' = [c0, c1, c2] := by
        match cs', hlen with
        | [x, y, z], _ => exact ⟨x, y, z, rfl⟩
      simp only [cells5, cells29] at h0 h1 h2
      obtain ⟨z0, e0, _, w0⟩ := DataW.trod_int Yba.underlying5 h0
      obtain ⟨z1, e1, _, w1⟩ := DataW.trod_int Yba.underlying5 h1
      obtain ⟨z2, e2, _, w2⟩ := DataW.trod_int Yba.underlying29 h2
      simp at e0 e1 e2
      subst e0 e1 e2
      obtain ⟨_, _, hcell⟩ := World.cells?_some hc
      have g0 := hcell 0 (by omega)
      have g1 := hcell 1 (by omega)
      have g2 := hcell 2 (by omega)
      rw [add_add] at g0 g1 g2
      obtain ⟨b, off, spot⟩ := a
      have hb0 := World.block_lt_of_cell? W _ (show W.cell? _ = some (.int .u8 z0) from g0)
      have hspot : spot = none := by
        by_cases hi0 : i = 0
        · subst hi0
          simpa [Addr.add] using World.cell?_spot (show W.cell? _ = some (.int .u8 z0) from g0)
        · have hz := hel 0 (by omega)
          obtain ⟨cs0, hc0, _⟩ := hz
          rw [cells34] at hc0
          obtain ⟨_, hl0, hcell0⟩ := World.cells?_some hc0
          have hg := hcell0 0 (by omega)
          rw [add_add, List.getElem?_eq_getElem (by omega)] at hg
          simpa [Addr.add] using World.cell?_spot hg
      subst hspot
      rw [add_plain] at g0 g1 g2 hb0
      have bd0 : 0 ≤ z0 ∧ z0 ≤ 255 := by
        have := w0
        simp [Lit.wf, IntKind.min, IntKind.max, IntKind.signed, IntKind.bits] at this
        omega
      have bd1 : 0 ≤ z1 ∧ z1 ≤ 255 := by
        have := w1
        simp [Lit.wf, IntKind.min, IntKind.max, IntKind.signed, IntKind.bits] at this
        omega
      exact ⟨(z0, z1, z2), bd0, bd1, b, off, rfl, hb0, by simpa using g0, by simpa [Nat.add_assoc] using g1, by simpa [Nat.add_assoc] using g2⟩
    obtain ⟨f, hf'⟩ := choose_lt each
    exact ⟨fun j => (f j).1, fun j => (f j).2.1, fun j => (f j).2.2, by omega, fun j hj => ⟨(hf' j hj).1.1, (hf' j hj).1.2, (hf' j hj).2.1.1, (hf' j hj).2.1.2, (hf' j hj).2.2⟩⟩

end Go.Proofs.Ybulktbi
