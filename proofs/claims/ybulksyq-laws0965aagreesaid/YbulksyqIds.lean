/-
  Seat b0965a: the walk of 'LawS0965AIds' (function 3).
-/
import Derived.Test.YbulksyqLinks
import Derived.Deep.QuietTactic
import Derived.BigQuiet
namespace Go.Proofs.Ybulksyq
open Go.RowKit

set_option maxHeartbeats 400000 in
theorem ids_long (a : Option Addr) (len cap : Nat) (w : World) (hlen : 1024 < len) (hm : len ≤ maxLen) :
    Calls Yba.prog 3 #[.slice a len cap] w fun e w' => e = .returned (.bool true) ∧ Below w.heap.size w w' := by
  unfold maxLen at hm
  go_enter Yba.func3, Yba.ntmps3
  go_wp2
  go_ret
  exact ⟨rfl, Below.refl _ _⟩

set_option maxHeartbeats 400000 in
theorem ids_none (a : Option Addr) (cap : Nat) (ss : List ByteArray) (w : World) (hs : Strs w w.heap.size a 0 ss) :
    Calls Yba.prog 3 #[.slice a 0 cap] w fun e w' => e = .returned (.bool true) ∧ Below w.heap.size w w' := by
  have hnl := @Lib.run_eql_slice_nil Yba.prog
  go_enter Yba.func3, Yba.ntmps3
  go_wp2_with fail
  refine (build_any a 0 cap ss _ hs (by omega)).mono ?_
  rintro e w1 ⟨q, v, ps, rfl, hps, hbuilt, hbel⟩
  go_wp2_with fail
  refine (links_any q 0 _ v ps ss _ hbuilt hps (by omega) (by omega)).mono ?_
  rintro e w2 ⟨r, rfl, hown, hbel2, hnil⟩
  obtain rfl := hnil rfl
  go_wp2
  go_ret
  exact ⟨rfl, hbel.trans (hbel2.mono hbel.size)⟩

set_option maxHeartbeats 400000 in
theorem ids_some (a : Option Addr) (len cap : Nat) (ss : List ByteArray) (w : World) (hs : Strs w w.heap.size a len ss) (h0 : 0 < len) (hlen : len ≤ 1024) :
    Calls Yba.prog 3 #[.slice a len cap] w fun e w' => e = .returned (.bool true) ∧ Below w.heap.size w w' := by
  obtain ⟨b, off, rfl, hbB, hc⟩ := hs.2 h0
  have HS := (show Hid _ from hs)
  have HC := (show Hid _ from hc)
  clear hs hc
  go_enter Yba.func3, Yba.ntmps3
  go_wp2_with fail
  refine (build_any _ len cap ss _ HS.out (by omega)).mono ?_
  rintro e w1 ⟨q, v, ps, rfl, hps, hbuilt, hbel⟩
  go_wp2_with fail
  refine (links_any q len _ v ps ss _ hbuilt hps HS.out.1 (by omega)).mono ?_
  rintro e w2 ⟨r, rfl, hown, hbel2, hnil⟩
  obtain ⟨g, c2, rfl, hg1, hg2⟩ : ∃ g c2, r = .slice (some ⟨g, 0, none⟩) len c2 ∧ w1.heap.size ≤ g ∧ g < w2.heap.size := by
    rcases hown.2 with ⟨h, h0'⟩ | ⟨g, cap, cur, h, hb, hg, _⟩
    · omega
    · exact ⟨g, cap, h, hb, (Array.getElem?_eq_some_iff.1 hg).1⟩
  have hbelT : Below w.heap.size w w2 := hbel.trans (hbel2.mono hbel.size)
  have HG : Hid (∀ j, j < len → w2.cell? ⟨g, j, none⟩ = some (.string (sAt ss j))) := by
    intro j hj
    rw [hown.cellAt j (by omega)]
    exact sCells_at ss len j HS.out.1 hj
  have HC2 : Hid (∀ j, j < len → w2.cell? ⟨b, off + j, none⟩ = some (.string (sAt ss j))) := fun j hj => (hbelT.cell (p := ⟨b, off + j, none⟩) hbB).trans (HC.out j hj)
  clear hown hnil hbuilt hbel hbel2 hps
  go_wp2
  go_loopw [5] (fun i wr => ∃ k : Nat, ∃ nd : Nat, k ≤ len ∧ i = .int .i64 k ∧ wr = w2.drewN nd) (fun i _ => len - (intOf i).toNat)
  case atStart => exact ⟨0, 0, by omega, rfl, rfl⟩
  case round =>
    obtain ⟨k, nd, hk, rfl, rfl⟩ := hrel
    by_cases hlt : k < len
    · have hx1 := HG.out k hlt
      have hx2 := HC2.out k hlt
      have hki : (k : Int) < (len : Int) := by omega
      go_wp2
      go_quiet (fail)
      go_wp2
      go_roundw
      case rel => exact ⟨k + 1, nd + nq, by omega, by go_num, rfl⟩
      case measure => simp [intOf]; omega
    · go_wp2
      go_ret
      exact ⟨rfl, below_drewN hbelT _⟩

end Go.Proofs.Ybulksyq
