/-
  Seat b0965a: the contract of 'zzs0965abuild' (function 5).
-/
import Derived.Test.YbulksyqParts
namespace Go.Proofs.Ybulksyq
open Go.RowKit

/-- What 'zzs0965abuild' leaves: an entry in block q whose field 2 holds the row of the pointers to the entries. -/
def Built (w' : World) (B : Nat) (ss : List ByteArray) (q : Nat) (v : Value) (ps : List Nat) : Prop :=
  w'.ownsRow B 23 1 v ps.length (ps.map ptr) ∧ Ent w' B ss ps ∧ w'.cell? ⟨q, 2, none⟩ = some v ∧ B ≤ q ∧ q < w'.heap.size

theorem built_mk {wr : World} {B k : Nat} {ss : List ByteArray} {v : Value} {ps : List Nat} {cs : Array Value} (hk : ps.length = k) (hB : B ≤ wr.heap.size)
    (hown : wr.ownsRow B 23 1 v k (ps.map ptr)) (hent : Ent wr B ss ps) (hc : cs[2]? = some v) : Built (wr.alloc (.cells cs 32)) B ss wr.heap.size v ps := by
  subst hk
  refine ⟨hown.alloc _, hent.alloc _, ?_, hB, by simp⟩
  rw [cell_of_row _ wr.heap.size 2 cs 32 (0, 0) (heap_alloc_new wr _)]
  exact hc

set_option maxHeartbeats 400000 in
theorem build_any (a : Option Addr) (len cap : Nat) (ss : List ByteArray) (w : World) (hs : Strs w w.heap.size a len ss) (hlen : len ≤ 1024) :
    Calls Yba.prog 5 #[.slice a len cap] w fun e w' => ∃ q v ps, e = .returned (ptr q) ∧ ps.length = len ∧ Built w' w.heap.size ss q v ps ∧ Below w.heap.size w w' := by
  obtain ⟨i0, hi, hz0, hz1, hz2⟩ := info_parts info23
  obtain ⟨hsl, hcells⟩ := hs
  have HC := (show Hid _ from hcells)
  clear hcells
  go_enter Yba.func5, Yba.ntmps5
  go_wp2
  go_loopw [3, 4] (fun v i wr => ∃ k : Nat, ∃ ps : List Nat, k ≤ len ∧ i = .int .i64 k ∧ ps.length = k ∧ wr.ownsRow w.heap.size 23 1 v k (ps.map ptr) ∧ Ent wr w.heap.size ss ps ∧ Below w.heap.size w wr)
    (fun _ i _ => len - (intOf i).toNat)
  case atStart => exact ⟨0, [], Nat.zero_le _, rfl, rfl, World.ownsRow_nil _ _ _ _, by intro i p h; simp at h, Below.refl _ _⟩
  case round =>
    obtain ⟨k, ps, hk, rfl, hps, hown, hent, hbel⟩ := hrel
    have hsz := hbel.size
    by_cases hlt : k < len
    · obtain ⟨b, off, rfl, hbB, hc⟩ := HC.out (by omega)
      have hcx : wr.cell? ⟨b, off + k, none⟩ = some (.string (sAt ss k)) := (hbel.cell (by exact hbB)).trans (hc k hlt)
      clear hc
      go_wp2_with (at_builtin; refine wpList_append_own _ rfl _ _ 28 rfl w.heap.size 23 i0 (.pointer none) 1 8 Yba.underlying28 hi hz0 hz1 hz2 rfl (by decide) _ _ _ rfl ((hown.alloc _).alloc _) ⟨wr.heap.size + 1, 0, none⟩ 1 1 [ptr wr.heap.size] rfl rfl ?c1 ?c2 ?c3 ?c4 ?c5 ?_)
      case c1 =>
        intro j u hj
        match j, hj with
        | 0, hj => simp at hj; subst hj; simp [Addr.add, ptr]
      case c2 => intro u hu; simp at hu; subst hu; rfl
      case c3 => unfold maxLen; omega
      case c4 => omega
      case c5 => simp; omega
      · intro v' w3 hown' hgrow _
        obtain ⟨ps', h1, h2, h3, h4⟩ := ent_push hps hsz hown hent hbel (by rfl) hown' hgrow
        clear hown' hgrow hown hent hbel hcx
        go_wp2
        go_roundw
        case rel => exact ⟨k + 1, ps', by omega, by go_num, h1, h2, h3, h4⟩
        case measure => simp [intOf]; omega
    · have hkl : k = len := by omega
      subst hkl
      obtain ⟨ao, c, rfl⟩ := own_slice hown
      go_wp2
      go_ret
      exact ⟨wr.heap.size, .slice ao k c, ps, rfl, hps, built_mk hps hsz hown hent rfl, hbel.alloc hsz _⟩

end Go.Proofs.Ybulksyq
