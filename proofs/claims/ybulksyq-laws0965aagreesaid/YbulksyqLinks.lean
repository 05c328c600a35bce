/-
  Seat b0965a: the contract of '(*entry).links' (function 6).
-/
import Derived.Test.YbulksyqBuild
namespace Go.Proofs.Ybulksyq
open Go.RowKit

set_option maxHeartbeats 400000 in
theorem links_any (q n B : Nat) (v : Value) (ps : List Nat) (ss : List ByteArray) (w : World) (hb : Built w B ss q v ps) (hn : ps.length = n) (hss : n ≤ ss.length) (hlen : n ≤ 1024) :
    Calls Yba.prog 6 #[ptr q] w fun e w' => ∃ r, e = .returned r ∧ w'.ownsRow w.heap.size 9 1 r n (sCells ss n) ∧ Below w.heap.size w w' ∧ (n = 0 → r = .slice none 0 0) := by
  obtain ⟨i0, hi, hz0, hz1, hz2⟩ := info_parts info9
  obtain ⟨hown, hent, hcell, hBq, hqs⟩ := hb
  rw [hn] at hown
  obtain ⟨ao, c, rfl⟩ := own_slice hown
  have hnc : n ≤ c := by
    rcases hown.2 with ⟨h, rfl⟩ | ⟨g, cap, cur, h, _, _, h2, _⟩
    · omega
    · simp at h; omega
  have hrow : ∀ k, k < n → ∃ g p, ao = some ⟨g, 0, none⟩ ∧ g < w.heap.size ∧ w.cell? ⟨g, k, none⟩ = some (ptr p) ∧ p < w.heap.size ∧ w.cell? ⟨p, 0, none⟩ = some (.string (sAt ss k)) := by
    intro k hk
    obtain ⟨g, cap, hv, _, hg⟩ : ∃ g cap, Value.slice ao n c = .slice (some ⟨g, 0, none⟩) n cap ∧ B ≤ g ∧ g < w.heap.size := by
      rcases hown.2 with ⟨h, rfl⟩ | ⟨g, cap, cur, h, hb, hg, _⟩
      · omega
      · exact ⟨g, cap, h, hb, (Array.getElem?_eq_some_iff.1 hg).1⟩
    simp only [Value.slice.injEq, true_and] at hv
    obtain ⟨rfl, rfl⟩ := hv
    have hp : ps[k]? = some (ps[k]'(by omega)) := List.getElem?_eq_getElem (by omega)
    refine ⟨g, ps[k]'(by omega), rfl, hg, ?_, hent.lt hp, hent.cell hp⟩
    rw [hown.cellAt k (by omega), List.getElem?_map, hp]
    rfl
  have HR := (show Hid _ from hrow)
  clear hrow hown hent
  unfold ptr
  go_enter Yba.func6, Yba.ntmps6
  go_wp2
  go_loopw [3, 11] (fun r i wr => ∃ k : Nat, k ≤ n ∧ i = .int .i64 k ∧ wr.ownsRow w.heap.size 9 1 r k (sCells ss k) ∧ Below w.heap.size w wr ∧ (k = 0 → r = .slice none 0 0))
    (fun _ i _ => n - (intOf i).toNat)
  case atStart => exact ⟨0, Nat.zero_le _, rfl, World.ownsRow_nil _ _ _ _, Below.refl _ _, fun _ => rfl⟩
  case round =>
    obtain ⟨k, hk, rfl, hown, hbel, hnil⟩ := hrel
    have hsz := hbel.size
    by_cases hlt : k < n
    · obtain ⟨g, p, rfl, hg, hcg, hp, hcp⟩ := HR.out k hlt
      unfold ptr at hcg
      have hcg' := (hbel.cell (p := ⟨g, k, none⟩) hg).trans hcg
      have hcp' := (hbel.cell (p := ⟨p, 0, none⟩) hp).trans hcp
      clear hcg hcp hcell
      go_wp2_with (at_builtin; refine wpList_append_own _ rfl _ _ 22 rfl w.heap.size 9 i0 (.string ByteArray.empty) 1 16 Yba.underlying22 hi hz0 hz1 hz2 rfl (by decide) _ _ _ rfl (hown.alloc _) ⟨wr.heap.size, 0, none⟩ 1 1 [.string (sAt ss k)] rfl rfl ?c1 ?c2 ?c3 ?c4 ?c5 ?_)
      case c1 =>
        intro j u hj
        match j, hj with
        | 0, hj => simp at hj; subst hj; simp [Addr.add]
      case c2 => intro u hu; simp at hu; subst hu; rfl
      case c3 => unfold maxLen; omega
      case c4 => omega
      case c5 => simp; omega
      · intro v' w3 hown' hgrow hiff
        obtain ⟨h1, h2⟩ := links_push hsz rfl (by omega) hown hbel hown' hgrow
        clear hown' hgrow hown hbel hcg' hcp' hiff
        go_wp2
        go_roundw
        case rel => exact ⟨k + 1, by omega, by go_num, h1, h2, fun h => by omega⟩
        case measure => simp [intOf]; omega
    · have hkl : k = n := by omega
      subst hkl
      go_wp2
      go_ret
      exact ⟨_, rfl, hown, hbel, hnil⟩

end Go.Proofs.Ybulksyq
