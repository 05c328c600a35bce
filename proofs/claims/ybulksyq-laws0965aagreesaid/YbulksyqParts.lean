/-
  Seat b0965a: what the walks are told of memory: the slice of strings that came in; the entries that the call lays, one block each; lemmas outside the walk.
-/
import Derived.Test.YbulksyqRows
import Derived.WalkKit
import Derived.WalkLawsBesides
namespace Go.Proofs.Ybulksyq
open Go.RowKit

theorem info23 : (Yba.prog.info? 23).map (fun i => (i.zero, i.size, i.bytes)) = some (some (.pointer none), 1, 8) := by kernel_rfl
theorem info9 : (Yba.prog.info? 9).map (fun i => (i.zero, i.size, i.bytes)) = some (some (.string ByteArray.empty), 1, 16) := by kernel_rfl

/-- String i of the list; the first k of them as cells. Plain definitions, so that the walk leaves them as they stand. -/
def sAt (ss : List ByteArray) (i : Nat) : ByteArray := ss.getD i ByteArray.empty
def sCells (ss : List ByteArray) (k : Nat) : List Value := (ss.take k).map Value.string
theorem sCells_succ (ss : List ByteArray) (k : Nat) (hk : k < ss.length) : sCells ss (k + 1) = sCells ss k ++ [.string (sAt ss k)] := by
  unfold sCells sAt
  rw [List.take_succ_eq_append_getElem hk, List.map_append, List.getD, List.getElem?_eq_getElem hk]
  rfl
theorem sCells_at (ss : List ByteArray) (k j : Nat) (hk : k ≤ ss.length) (hj : j < k) : (sCells ss k)[j]? = some (.string (sAt ss j)) := by
  unfold sCells sAt
  rw [List.getElem?_map, List.getElem?_take, if_pos hj]
  have : j < ss.length := by omega
  simp [List.getD, List.getElem?_eq_getElem this]
theorem sCells_zero (ss : List ByteArray) : sCells ss 0 = [] := rfl

/-- The slice of strings that came in, as the walk is told of it: nothing is known of an empty one's address. -/
def Strs (w : World) (B : Nat) (a : Option Addr) (len : Nat) (ss : List ByteArray) : Prop :=
  len ≤ ss.length ∧ (0 < len → ∃ b off, a = some ⟨b, off, none⟩ ∧ b < B ∧ ∀ j, j < len → w.cell? ⟨b, off + j, none⟩ = some (.string (sAt ss j)))

def ptr (p : Nat) : Value := .pointer (some ⟨p, 0, none⟩)

/-- Entry number i of the row lies in a block of its own, and its first cell is string i. -/
def Ent (w : World) (B : Nat) (ss : List ByteArray) (ps : List Nat) : Prop :=
  ∀ i p, ps[i]? = some p → B ≤ p ∧ ∃ cs, w.heap[p]? = some (.cells cs 32 (0, 0)) ∧ cs[0]? = some (.string (sAt ss i))

theorem Ent.lt {w : World} {B : Nat} {ss : List ByteArray} {ps : List Nat} (h : Ent w B ss ps) {i p : Nat} (hi : ps[i]? = some p) : p < w.heap.size := by
  obtain ⟨_, cs, hb, _⟩ := h i p hi
  exact (Array.getElem?_eq_some_iff.1 hb).1

theorem Ent.kept {w w' : World} {B : Nat} {ss : List ByteArray} {ps : List Nat} (h : Ent w B ss ps) (hk : ∀ (i p : Nat), ps[i]? = some p → w'.heap[p]? = w.heap[p]?) : Ent w' B ss ps := by
  intro i p hi
  obtain ⟨hB, cs, hb, hc⟩ := h i p hi
  exact ⟨hB, cs, (hk i p hi).trans hb, hc⟩

/-- The row of pointers is no entry. -/
theorem own_ne {w : World} {B B' : Nat} {e : TypeId} {sz n : Nat} {v : Value} {xs : List Value} {ss : List ByteArray} {ps : List Nat} (h : Ent w B ss ps) (ho : w.ownsRow B' e sz v n xs) (he : e ≠ 32) {i p : Nat} (hi : ps[i]? = some p) : some p ≠ v.ownBlock := by
  intro hp
  obtain ⟨_, cs, hb, _⟩ := h i p hi
  rcases ho.2 with ⟨rfl, _⟩ | ⟨g, cap, cur, rfl, _, hg, _⟩
  · simp [Value.ownBlock] at hp
  · simp [Value.ownBlock] at hp
    subst hp
    rw [hb] at hg
    simp at hg
    exact he hg.2.symm

theorem Ent.grown {w w' : World} {B B' : Nat} {e : TypeId} {sz n : Nat} {v : Value} {xs : List Value} {ss : List ByteArray} {ps : List Nat} (h : Ent w B ss ps) (ho : w.ownsRow B' e sz v n xs) (he : e ≠ 32) (hg : w.grownBy w' v.ownBlock) : Ent w' B ss ps :=
  h.kept fun _ _ hi => hg.block _ (h.lt hi) (own_ne h ho he hi)

theorem Ent.alloc {w : World} {B : Nat} {ss : List ByteArray} {ps : List Nat} (h : Ent w B ss ps) (o : Obj) : Ent (w.alloc o) B ss ps :=
  h.kept fun _ _ hi => heap_alloc_old w o (h.lt hi)

theorem Ent.cell {w : World} {B : Nat} {ss : List ByteArray} {ps : List Nat} (h : Ent w B ss ps) {i p : Nat} (hi : ps[i]? = some p) : w.cell? ⟨p, 0, none⟩ = some (.string (sAt ss i)) := by
  obtain ⟨_, cs, hb, hc⟩ := h i p hi
  rw [cell_of_row w p 0 cs 32 (0, 0) hb]
  exact hc

theorem own_slice {w : World} {B : Nat} {e : TypeId} {sz n : Nat} {v : Value} {xs : List Value} (h : w.ownsRow B e sz v n xs) : ∃ ao c, v = .slice ao n c := by
  rcases h.2 with ⟨rfl, rfl⟩ | ⟨g, cap, cur, rfl, _⟩
  · exact ⟨_, _, rfl⟩
  · exact ⟨_, _, rfl⟩

/-- Behind the append of a new entry. -/
theorem ent_push {w wr w3 : World} {B k : Nat} {ss : List ByteArray} {ps : List Nat} {v v' : Value} {cs : Array Value} {o : Obj} (hk : ps.length = k) (hB : B ≤ wr.heap.size)
    (hown : wr.ownsRow B 23 1 v k (ps.map ptr)) (hent : Ent wr B ss ps) (hbel : Below B w wr) (hc0 : cs[0]? = some (.string (sAt ss k)))
    (hown' : w3.ownsRow B 23 1 v' (k + 1) (ps.map ptr ++ [ptr wr.heap.size])) (hgrow : ((wr.alloc (.cells cs 32)).alloc o).grownBy w3 v.ownBlock) :
    ∃ ps', ps'.length = k + 1 ∧ w3.ownsRow B 23 1 v' (k + 1) (ps'.map ptr) ∧ Ent w3 B ss ps' ∧ Below B w w3 := by
  refine ⟨ps ++ [wr.heap.size], by simp [hk], by simpa using hown', ?_, ((hbel.alloc hB _).alloc (by simp; omega) _).grown hgrow (by simp; omega) (fun j hj => (hown.lt j hj).1)⟩
  have hnew : Ent ((wr.alloc (.cells cs 32)).alloc o) B ss (ps ++ [wr.heap.size]) := by
    intro i p hi
    by_cases hlt : i < ps.length
    · rw [List.getElem?_append_left hlt] at hi
      exact ((hent.alloc (.cells cs 32)).alloc o) i p hi
    · rw [List.getElem?_append_right (by omega)] at hi
      have hik : i - ps.length = 0 := by
        have := (List.getElem?_eq_some_iff.1 hi).1
        simp at this; omega
      rw [hik] at hi
      simp at hi
      subst hi
      have : i = k := by omega
      subst this
      exact ⟨hB, cs, by rw [heap_alloc_old _ _ (by simp)]; exact heap_alloc_new wr _, hc0⟩
  exact hnew.grown ((hown.alloc _).alloc _) (by decide) hgrow

/-- Behind the append of a string to the row that 'links' makes: its row lies from B2 on, the entries and their row below. -/
theorem links_push {w wr w3 : World} {B2 k : Nat} {ss : List ByteArray} {v v' : Value} {o : Obj} {s : ByteArray} (hB : B2 ≤ wr.heap.size) (hs : sAt ss k = s) (hlen : k < ss.length)
    (hown : wr.ownsRow B2 9 1 v k (sCells ss k)) (hbel : Below B2 w wr)
    (hown' : w3.ownsRow B2 9 1 v' (k + 1) (sCells ss k ++ [.string s])) (hgrow : (wr.alloc o).grownBy w3 v.ownBlock) :
    w3.ownsRow B2 9 1 v' (k + 1) (sCells ss (k + 1)) ∧ Below B2 w w3 := by
  refine ⟨?_, (hbel.alloc hB _).grown hgrow (by simp; omega) (fun j hj => (hown.lt j hj).1)⟩
  rw [sCells_succ ss k hlen, hs]
  exact hown'

end Go.Proofs.Ybulksyq
