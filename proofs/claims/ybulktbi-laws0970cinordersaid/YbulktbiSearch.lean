/-
  Seat b0970a, LawS0970CInOrder: the contracts of Hold's closure (function 15) and of sort.Search (function 14) over it.
-/
import Derived.Test.YbulktbiPlain
import Derived.Test.YbulktbiRows
import Derived.WalkKit
import Derived.WalkLawsBesides
import Derived.Deep.QuietTactic
import Derived.BigQuiet
namespace Go.Proofs.Ybulktbi
set_option linter.unusedSimpArgs false
open Go.RowKit
set_option linter.unusedVariables false

set_option maxHeartbeats 400000 in
theorem pred_any (k len cap Wb Nb g : Nat) (N m : Int) (w : World) (hW : w.cell? ⟨Wb, 0, none⟩ = some (.slice (some ⟨g, 0, none⟩) len cap)) (hN : w.cell? ⟨Nb, 0, none⟩ = some (.int .u64 N))
    (hk : k < len) (hlen : len ≤ 1024) (hm : w.cell? ⟨g, k * 2, none⟩ = some (.int .u64 m)) :
    Calls Yba.prog 15 #[.int .i64 k, .pointer (some ⟨Wb, 0, none⟩), .pointer (some ⟨Nb, 0, none⟩)] w fun e w' => e = .returned (.bool (decide (N < m))) ∧ ∃ nd, w' = w.drewN nd := by
  have hki : (k : Int) < (len : Int) := by omega
  have hk0 : (0 : Int) ≤ (k : Int) := by omega
  go_enter Yba.func15, Yba.ntmps15
  go_wp2
  go_quiet (fail)
  go_wp2
  go_ret
  exact ⟨rfl, _, rfl⟩

set_option maxHeartbeats 400000 in
theorem search_any (ao : Option Addr) (len cap Wb Nb g c : Nat) (N : Int) (ms : Nat → Int) (w : World) (hW : w.cell? ⟨Wb, 0, none⟩ = some (.slice ao len cap)) (hao : 0 < len → ao = some ⟨g, 0, none⟩) (hN : w.cell? ⟨Nb, 0, none⟩ = some (.int .u64 N))
    (hlen : len ≤ 1024) (hm : ∀ k, k < len → w.cell? ⟨g, k * 2, none⟩ = some (.int .u64 (ms k))) (hc : c ≤ len) (hp : ∀ k, k < len → (N < ms k ↔ c ≤ k)) :
    Calls Yba.prog 14 #[.int .i64 len, .func (.func 15) #[] #[.pointer (some ⟨Wb, 0, none⟩), .pointer (some ⟨Nb, 0, none⟩)]] w fun e w' => e = .returned (.int .i64 c) ∧ ∃ nd, w' = w.drewN nd := by
  have HM := (show Hid _ from hm)
  have HP := (show Hid _ from hp)
  clear hm hp
  go_enter Yba.func14, Yba.ntmps14
  go_wp2
  go_loopw [5, 6] (fun i j wr => ∃ a b nd : Nat, a ≤ c ∧ c ≤ b ∧ b ≤ len ∧ i = .int .i64 a ∧ j = .int .i64 b ∧ wr = w.drewN nd) (fun i j _ => (intOf j).toNat - (intOf i).toNat)
  case atStart => exact ⟨0, len, 0, by omega, by omega, by omega, rfl, rfl, rfl⟩
  case round =>
    obtain ⟨a, b, nd, hac, hcb, hbl, rfl, rfl, rfl⟩ := hrel
    by_cases hlt : a < b
    · obtain rfl := hao (by omega)
      go_wp2_with fail
      obtain ⟨h, hh⟩ : ∃ h : Nat, ((a : Int) + (b : Int)) / 2 = (h : Int) := ⟨(a + b) / 2, by omega⟩
      rw [hh]
      have h1 : a ≤ h := by omega
      have h2 : h < b := by omega
      clear hh
      refine (pred_any h len cap Wb Nb g N (ms h) _ (by simpa using hW) (by simpa using hN) (by omega) hlen (by simpa using HM.out h (by omega))).mono ?_
      rintro e w1 ⟨rfl, nd1, rfl⟩
      have hiff := HP.out h (by omega)
      by_cases hN' : N < ms h
      · have hch : c ≤ h := hiff.1 hN'
        clear hiff
        go_wp2
        go_roundw
        case rel => exact ⟨a, h, nd + nd1, hac, hch, by omega, rfl, rfl, rfl⟩
        case measure => simp [intOf]; omega
      · have hch : ¬ c ≤ h := fun hh => hN' (hiff.2 hh)
        have hd : decide (N < ms h) = false := decide_eq_false hN'
        clear hiff
        go_wp2
        go_roundw
        case rel => exact ⟨h + 1, b, nd + nd1, by omega, hcb, hbl, by go_num, rfl, rfl⟩
        case measure => simp [intOf]; omega
    · have : a = c := by omega
      subst this
      go_wp2
      go_ret
      exact ⟨rfl, _, rfl⟩

end Go.Proofs.Ybulktbi
