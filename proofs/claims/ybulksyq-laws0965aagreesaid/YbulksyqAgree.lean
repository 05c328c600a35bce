/-
  Seat b0965a: the contracts of slices.EqualFunc (function 8) and '(*entry).linksAre' (function 7); the walk of 'LawS0965AAgree' (function 4).
-/
import Derived.Test.YbulksyqLinks
import Derived.Deep.QuietTactic
import Derived.BigQuiet
namespace Go.Proofs.Ybulksyq
open Go.RowKit

/-- What the reading of the row of entries meets. -/
def RowAt (w : World) (B : Nat) (ao : Option Addr) (n : Nat) (ss : List ByteArray) : Prop :=
  ∀ k, k < n → ∃ g p, ao = some ⟨g, 0, none⟩ ∧ g < B ∧ w.cell? ⟨g, k, none⟩ = some (ptr p) ∧ p < B ∧ w.cell? ⟨p, 0, none⟩ = some (.string (sAt ss k))

def StrAt (w : World) (a : Option Addr) (n : Nat) (ss : List ByteArray) : Prop :=
  ∀ k, k < n → ∃ g, a = some ⟨g, 0, none⟩ ∧ w.cell? ⟨g, k, none⟩ = some (.string (sAt ss k))

theorem RowAt.below {w w' : World} {B : Nat} {ao : Option Addr} {n : Nat} {ss : List ByteArray} (h : RowAt w B ao n ss) (hb : Below B w w') : RowAt w' B ao n ss := by
  intro k hk
  obtain ⟨g, p, e, hg, h1, hp, h2⟩ := h k hk
  exact ⟨g, p, e, hg, (hb.cell (p := ⟨g, k, none⟩) hg).trans h1, hp, (hb.cell (p := ⟨p, 0, none⟩) hp).trans h2⟩

theorem built_row {w : World} {B q n : Nat} {v : Value} {ps : List Nat} {ss : List ByteArray} (hb : Built w B ss q v ps) (hn : ps.length = n) :
    ∃ ao c, v = .slice ao n c ∧ RowAt w w.heap.size ao n ss := by
  obtain ⟨hown, hent, hcell, hBq, hqs⟩ := hb
  rw [hn] at hown
  obtain ⟨ao, c, rfl⟩ := own_slice hown
  refine ⟨ao, c, rfl, fun k hk => ?_⟩
  obtain ⟨g, cap, hv, _, hg⟩ : ∃ g cap, Value.slice ao n c = .slice (some ⟨g, 0, none⟩) n cap ∧ B ≤ g ∧ g < w.heap.size := by
    rcases hown.2 with ⟨h, rfl⟩ | ⟨g, cap, cur, h, hb, hg, _⟩
    · omega
    · exact ⟨g, cap, h, hb, (Array.getElem?_eq_some_iff.1 hg).1⟩
  simp only [Value.slice.injEq, true_and] at hv
  obtain ⟨rfl, rfl⟩ := hv
  have hp : ps[k]? = some (ps[k]'(by omega)) := List.getElem?_eq_getElem (by omega)
  refine ⟨g, ps[k]'(by omega), rfl, hg, ?_, hent.lt hp, hent.cell hp⟩
  rw [hown.cellAt k (by omega), List.getElem?_map, hp]
  rfl

theorem own_some {w : World} {B : Nat} {e : TypeId} {sz n c : Nat} {a : Option Addr} {xs : List Value} (h : w.ownsRow B e sz (.slice a n c) n xs) (hn : 0 < n) : ∃ g, a = some ⟨g, 0, none⟩ ∧ B ≤ g := by
  rcases h.2 with ⟨h, rfl⟩ | ⟨g, cap, cur, h, hb, hg, _⟩
  · omega
  · simp only [Value.slice.injEq] at h
    exact ⟨g, h.1, hb⟩

set_option maxHeartbeats 400000 in
theorem equal_any (ao a2 : Option Addr) (n c c2 B : Nat) (ss : List ByteArray) (w : World) (hr : RowAt w B ao n ss) (hs : StrAt w a2 n ss) (hlen : n ≤ 1024) :
    Calls Yba.prog 8 #[.slice ao n c, .slice a2 n c2, .func (.func 9) #[] #[]] w fun e w' => e = .returned (.bool true) ∧ w' = w := by
  go_enter Yba.func8, Yba.ntmps8
  go_wp2
  go_loop [17] (fun i => ∃ k : Nat, k ≤ n ∧ i = .int .i64 k) (fun i => n - (intOf i).toNat)
  case atStart => exact ⟨0, Nat.zero_le _, rfl⟩
  case round =>
    obtain ⟨k, hk, rfl⟩ := hrel
    by_cases hlt : k < n
    · obtain ⟨g, p, rfl, hg, h1, hp, h2⟩ := hr k hlt
      obtain ⟨g2, rfl, h3⟩ := hs k hlt
      unfold ptr at h1
      go_wp2
      go_round
      case rel => exact ⟨k + 1, by omega, by go_num⟩
      case measure => simp [intOf]; omega
    · go_wp2
      go_ret
      exact ⟨rfl, rfl⟩

set_option maxHeartbeats 400000 in
theorem linksAre_any (q : Nat) (ao a2 : Option Addr) (n c c2 B : Nat) (ss : List ByteArray) (w : World) (hq : w.cell? ⟨q, 2, none⟩ = some (.slice ao n c)) (hr : RowAt w B ao n ss) (hs : StrAt w a2 n ss) (hlen : n ≤ 1024) :
    Calls Yba.prog 7 #[ptr q, .slice a2 n c2] w fun e w' => e = .returned (.bool true) ∧ w' = w := by
  unfold ptr
  go_enter Yba.func7, Yba.ntmps7
  go_wp2_with fail
  refine (equal_any ao a2 n c c2 B ss w hr hs hlen).mono ?_
  rintro e w' ⟨rfl, rfl⟩
  go_wp2
  go_ret
  exact ⟨rfl, rfl⟩

set_option maxHeartbeats 400000 in
theorem agree_long (a : Option Addr) (len cap : Nat) (w : World) (hlen : 1024 < len) (hm : len ≤ maxLen) :
    Calls Yba.prog 4 #[.slice a len cap] w fun e w' => e = .returned (.bool true) ∧ Below w.heap.size w w' := by
  unfold maxLen at hm
  go_enter Yba.func4, Yba.ntmps4
  go_wp2
  go_ret
  exact ⟨rfl, Below.refl _ _⟩

set_option maxHeartbeats 1000000 in
theorem agree_short (a : Option Addr) (len cap : Nat) (ss : List ByteArray) (w : World) (hs : Strs w w.heap.size a len ss) (hlen : len ≤ 1024) :
    Calls Yba.prog 4 #[.slice a len cap] w fun e w' => e = .returned (.bool true) ∧ Below w.heap.size w w' := by
  have HS := (show Hid _ from hs)
  clear hs
  go_enter Yba.func4, Yba.ntmps4
  go_wp2_with fail
  refine (build_any _ len cap ss _ HS.out (by omega)).mono ?_
  rintro e w1 ⟨q, v, ps, rfl, hps, hbuilt, hbel⟩
  obtain ⟨ao, c, rfl, hrow⟩ := built_row hbuilt hps
  have hq := hbuilt.2.2.1
  have hqs := hbuilt.2.2.2.2
  go_wp2_with fail
  refine (links_any q len _ _ ps ss _ hbuilt hps HS.out.1 (by omega)).mono ?_
  rintro e w2 ⟨r, rfl, hown, hbel2, hnil⟩
  obtain ⟨a2, c2, rfl⟩ := own_slice hown
  have hbelT : Below w.heap.size w w2 := hbel.trans (hbel2.mono hbel.size)
  have hq2 : w2.cell? ⟨q, 2, none⟩ = some (.slice ao len c) := (hbel2.cell (p := ⟨q, 2, none⟩) hqs).trans hq
  have hrow2 := hrow.below hbel2
  have HO : Hid (StrAt w2 a2 len ss) := by
    intro k hk
    obtain ⟨g, cap, hv, _⟩ : ∃ g cap, Value.slice a2 len c2 = .slice (some ⟨g, 0, none⟩) len cap ∧ w1.heap.size ≤ g := by
      rcases hown.2 with ⟨h, rfl⟩ | ⟨g, cap, cur, h, hb, hg, _⟩
      · omega
      · exact ⟨g, cap, h, hb⟩
    simp only [Value.slice.injEq, true_and] at hv
    obtain ⟨rfl, rfl⟩ := hv
    refine ⟨g, rfl, ?_⟩
    rw [hown.cellAt k (by omega)]
    exact sCells_at ss len k HS.out.1 hk
  have HR : Hid (RowAt w2 w1.heap.size ao len ss) := hrow2
  have HW : Hid (w2.ownsRow w1.heap.size 9 1 (.slice a2 len c2) len (sCells ss len)) := hown
  have hz1 := hbel2.size
  have hz0 := hbel.size
  clear hrow2 hrow hown hnil hbuilt hbel hbel2 hps hq
  go_wp2_with fail
  refine (linksAre_any q ao a2 len c c2 _ ss _ hq2 HR.out HO.out hlen).mono ?_
  rintro e w3 ⟨rfl, rfl⟩
  go_wp2_with fail
  clear HO
  go_loopw [5] (fun i wr => ∃ k : Nat, ∃ xs, k ≤ len ∧ i = .int .i64 k ∧ wr.ownsRow w1.heap.size 9 1 (.slice a2 len c2) len xs ∧ Below w1.heap.size w3 wr) (fun i _ => len - (intOf i).toNat)
  case atStart => exact ⟨0, _, by omega, rfl, HW.out, Below.refl _ _⟩
  case round =>
    obtain ⟨k, xs, hk, rfl, hown, hbel⟩ := hrel
    by_cases hlt : k < len
    · obtain ⟨g, rfl, hg⟩ := own_some hown (by omega)
      obtain ⟨old, hold⟩ : ∃ old, wr.cell? ⟨g, k, none⟩ = some old := by
        rw [hown.cellAt k (by omega)]
        exact ⟨_, List.getElem?_eq_getElem (by rw [hown.1]; omega)⟩
      have hfr := hown.frozenAt k
      go_wp2
      go_roundw
      case rel => exact ⟨k + 1, _, by omega, by go_num, (hown.stored k _).1, hbel.setCell (by exact hg) _⟩
      case measure => simp [intOf]; omega
    · have hkl : k = len := by omega
      subst hkl
      have hq4 : wr.cell? ⟨q, 2, none⟩ = some (.slice ao k c) := (hbel.cell (p := ⟨q, 2, none⟩) hqs).trans hq2
      have HR4 : Hid (RowAt wr w1.heap.size ao k ss) := HR.out.below hbel
      have hbelW : Below w.heap.size w wr := hbelT.trans (hbel.mono hz0)
      clear hown HW HR hq2 hbel hbelT
      unfold ptr
      go_wp2
      go_loopw [6] (fun i wq => ∃ j : Nat, ∃ nd : Nat, j ≤ k ∧ i = .int .i64 j ∧ wq = wr.drewN nd) (fun i _ => k - (intOf i).toNat)
      case atStart => exact ⟨0, 0, by omega, rfl, rfl⟩
      case round =>
        obtain ⟨j, nd, hj, rfl, rfl⟩ := hrel
        by_cases hjl : j < k
        · obtain ⟨g, p, rfl, hg, h1, hp, h2⟩ := HR4.out j hjl
          obtain ⟨b, off, rfl, hbB, hc⟩ := HS.out.2 (by omega)
          have h3 := (hbelW.cell (p := ⟨b, off + j, none⟩) hbB).trans (hc j hjl)
          have hji : (j : Int) < (k : Int) := by omega
          unfold ptr at h1
          clear hc
          go_wp2
          go_quiet (fail)
          go_wp2
          go_roundw
          case rel => exact ⟨j + 1, nd + nq, by omega, by go_num, rfl⟩
          case measure => simp [intOf]; omega
        · go_wp2
          go_ret
          exact ⟨rfl, below_drewN hbelW _⟩

end Go.Proofs.Ybulksyq
