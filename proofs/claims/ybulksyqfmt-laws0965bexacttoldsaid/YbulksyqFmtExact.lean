/-
  Seat b0965aF: the walk of 'LawS0965BExact' (function 3).
-/
import Derived.Test.YbulksyqFmtFacts
namespace Go.Proofs.YbulksyqFmt
open Go.RowKit Go.Extern.Stop Go.Stop Go.Extern

set_option linter.unusedVariables false
theorem sizes (s : ByteArray) : (pre17 ++ s ++ ⟨#[10]⟩ : ByteArray).size = s.size + 18 := by
  have h1 : pre17.size = 17 := rfl
  have h2 : (⟨#[10]⟩ : ByteArray).size = 1 := rfl
  rw [ByteArray.size_append, ByteArray.size_append, h1, h2]
  omega
theorem prefixes (s : ByteArray) : (pre17 ++ s ++ ⟨#[10]⟩ : ByteArray).extract 0 pre17.size = pre17 := by
  rw [ByteArray.append_assoc]
  exact ByteArray.extract_append_eq_left rfl
theorem lasts (s : ByteArray) (h : s.size + 17 < (pre17 ++ s ++ ⟨#[10]⟩ : ByteArray).size) : (pre17 ++ s ++ ⟨#[10]⟩ : ByteArray)[s.size + 17]'h = 10 := by
  have h1 : (pre17 ++ s : ByteArray).size = s.size + 17 := by
    have h1 : pre17.size = 17 := rfl
    rw [ByteArray.size_append, h1]; omega
  rw [ByteArray.getElem_append_right (by omega)]
  simp only [h1, Nat.sub_self]
  rfl

set_option maxHeartbeats 800000 in
theorem hasPrefix_yes (g p : ByteArray) (w : World) (hg : g.size ≤ 2000) (hp : p.size ≤ g.size) (he : g.extract 0 p.size = p) :
    Calls Ybaf.prog 6 #[.string g, .string p] w fun e w' => e = .returned (.bool true) ∧ w = w' := by
  go_enter Ybaf.func6, Ybaf.ntmps6
  go_wp2
  go_ret
  exact ⟨rfl, rfl⟩

set_option maxHeartbeats 800000 in
theorem exact_zero (w : World) : Calls Ybaf.prog 3 #[.int .u8 0] w fun e w' => e = .returned (.bool true) ∧ Below w.heap.size w w' := by
  go_enter Ybaf.func3, Ybaf.ntmps3
  go_wp2_with fail
  refine (line_zero w).mono ?_
  rintro e w' ⟨rfl, rfl⟩
  unfold line0
  go_wp2
  go_ret
  exact ⟨rfl, Below.refl _ _⟩

set_option maxHeartbeats 800000 in
theorem exact_one (w : World) (hc : w.cell? ⟨0, 1, none⟩ = some (.string jsonB)) : Calls Ybaf.prog 3 #[.int .u8 1] w fun e w' => e = .returned (.bool true) ∧ Below w.heap.size w w' := by
  go_enter Ybaf.func3, Ybaf.ntmps3
  go_wp2_with fail
  refine (line_one w hc).mono ?_
  rintro e w' ⟨rfl, rfl⟩
  unfold line1
  go_wp2
  go_ret
  exact ⟨rfl, Below.refl _ _⟩

set_option maxHeartbeats 800000 in
theorem exact_big (F : Interp) (n : Int) (w : World) (hF : F.answers w.tape) (h0 : 2 ≤ n) (h1 : n ≤ 255) (s : ByteArray) (hs : FmtStop.textOf (F "fmt.Sprintf" (reading n) 0) = s) (hz : s.size ≤ 1000) (hp : 0 < s.size) :
    Calls Ybaf.prog 3 #[.int .u8 n] w fun e w' => e = .returned (.bool true) ∧ Below w.heap.size w w' := by
  have hn : (n == 0) = false := by simp; omega
  have hn1 : (n == 1) = false := by simp; omega
  go_enter Ybaf.func3, Ybaf.ntmps3
  go_wp2_with fail
  refine (line_big F n w hF h0 h1 s hs hz).mono ?_
  rintro e w' ⟨rfl, hb⟩
  obtain ⟨g, hg⟩ : ∃ g, g = pre17 ++ s ++ ⟨#[10]⟩ := ⟨_, rfl⟩
  rw [← hg]
  have hgs : g.size = s.size + 18 := by rw [hg]; exact sizes s
  have hgi : (18 : Int) < (g.size : Int) := by omega
  have hgm : g.size ≤ 2000 := by omega
  have hgp : g.extract 0 pre17.size = pre17 := by rw [hg]; exact prefixes s
  have hlast : ∀ (h : s.size + 17 < g.size), g[s.size + 17]'h = 10 := by subst hg; exact fun h => lasts s h
  clear hg hs
  go_wp2_with fail
  refine (hasPrefix_yes g pre17 w' hgm (by have : pre17.size = 17 := rfl; omega) hgp).mono ?_
  rintro e w2 ⟨rfl, rfl⟩
  clear hgp
  go_wp2
  go_ret
  exact ⟨rfl, hb⟩

end Go.Proofs.YbulksyqFmt
