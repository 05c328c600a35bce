/-
  Seat b0983a, LawS0983AUnwait: blocks in memory; the closure (function 6), slices.DeleteFunc over it (function 5), unwait (function 4).
-/
import Derived.Test.YbulktiiRows
import Derived.WalkKit
import Derived.WalkLawsBesides
import Derived.WalkSpells
import Derived.ProofKit
import Derived.Below
import Derived.LaidEqlPtr
import Derived.Laws.Pointers
import Derived.Shelf.SlicesE.DeleteFunc
import Derived.Ground.SlgfProg
import Derived.Lib.SliceRun
import Derived.Lib.OwnBridge
set_option maxRecDepth 100000
namespace Go.Proofs.Ybulktii
open Go.Shelf Go.RowKit Go.Lib Go.Sort
set_option linter.unusedVariables false
set_option linter.unusedSimpArgs false
shelf_lay_g SlLaysH.n10 Slgf 10 at Yba 5 as l10

/-! ### rows whose cell r is 'f r' -/
def valsL (n : Nat) (f : Nat → Value) : List Value := (List.range n).map f
def vals (n : Nat) (f : Nat → Value) : Array Value := (valsL n f).toArray
def upd {α : Type} (f : Nat → α) (r : Nat) (v : α) : Nat → α := fun i => if i = r then v else f i

theorem upd_same {α : Type} (f : Nat → α) (r : Nat) (v : α) : upd f r v r = v := by simp [upd]
theorem upd_other {α : Type} (f : Nat → α) {r i : Nat} (v : α) (h : i ≠ r) : upd f r v i = f i := by simp [upd, h]

theorem vals_size (n : Nat) (f : Nat → Value) : (vals n f).size = n := by simp [vals, valsL]
theorem vals_at (n : Nat) (f : Nat → Value) {r : Nat} (h : r < n) : (vals n f)[r]? = some (f r) := by simp [vals, valsL, h]
theorem vals_set (n : Nat) (f : Nat → Value) (r : Nat) (v : Value) : (vals n f).setIfInBounds r v = vals n (upd f r v) := by
  apply Array.ext_getElem?
  intro i
  rw [Array.getElem?_setIfInBounds]
  by_cases h : r = i
  · subst h
    rw [if_pos rfl, vals_size]
    by_cases hr : r < n
    · rw [if_pos hr, vals_at n _ hr, upd_same]
    · rw [if_neg hr, Array.getElem?_eq_none (by rw [vals_size]; omega)]
  · rw [if_neg h]
    by_cases hi : i < n
    · rw [vals_at n _ hi, vals_at n _ hi, upd_other _ _ (fun e => h e.symm)]
    · rw [Array.getElem?_eq_none (by rw [vals_size]; omega), Array.getElem?_eq_none (by rw [vals_size]; omega)]
theorem vals_congr {n : Nat} {f g : Nat → Value} (h : ∀ i, i < n → f i = g i) : vals n f = vals n g := by
  apply Array.ext_getElem?
  intro i
  by_cases hi : i < n
  · rw [vals_at n _ hi, vals_at n _ hi, h i hi]
  · rw [Array.getElem?_eq_none (by rw [vals_size]; omega), Array.getElem?_eq_none (by rw [vals_size]; omega)]
theorem made_vals (z : Value) (n : Nat) : madeCells #[z] n = vals n (fun _ => z) := by
  apply Array.ext_getElem?
  intro i
  by_cases hi : i < n
  · rw [vals_at n _ hi]
    simp [madeCells, hi, Nat.mod_one]
  · rw [Array.getElem?_eq_none (by rw [size_madeCells]; omega), Array.getElem?_eq_none (by rw [vals_size]; omega)]

/-- A block of cells, with its element type. -/
def Blk (w : World) (b : Nat) (cs : Array Value) (t : TypeId) : Prop := w.heap[b]? = some (.cells cs t (0, 0))
theorem Blk.lt {w : World} {b : Nat} {cs : Array Value} {t : TypeId} (h : Blk w b cs t) : b < w.heap.size := (Array.getElem?_eq_some_iff.1 h).1
theorem Blk.ne {w : World} {b b' : Nat} {cs cs' : Array Value} {t t' : TypeId} (h : Blk w b cs t) (h' : Blk w b' cs' t') (hne : t ≠ t') : b ≠ b' := by
  rintro rfl
  unfold Blk at h h'
  rw [h] at h'
  simp at h'
  exact hne h'.2
theorem Blk.cell {w : World} {b : Nat} {cs : Array Value} {t : TypeId} (h : Blk w b cs t) (j : Nat) : w.cell? ⟨b, j, none⟩ = cs[j]? := cell_of_row w b j cs t (0, 0) h
theorem Blk.at {w : World} {b n : Nat} {f : Nat → Value} {t : TypeId} (h : Blk w b (vals n f) t) {j : Nat} (hj : j < n) : w.cell? ⟨b, j, none⟩ = some (f j) := by rw [h.cell, vals_at n f hj]
theorem Blk.frozen {w : World} {b : Nat} {cs : Array Value} {t : TypeId} (h : Blk w b cs t) (j : Nat) : w.frozen? ⟨b, j, none⟩ = false := frozen_of_row w b j cs t h
theorem Blk.set {w : World} {b n : Nat} {f : Nat → Value} {t : TypeId} (h : Blk w b (vals n f) t) (j : Nat) (v : Value) : Blk (w.setCell ⟨b, j, none⟩ v) b (vals n (upd f j v)) t := by
  have := heap_setCell_same w b j _ t v h
  rwa [vals_set] at this
theorem Blk.setOther {w : World} {b b' : Nat} {cs : Array Value} {t : TypeId} (h : Blk w b cs t) (hne : b ≠ b') (j : Nat) (v : Value) : Blk (w.setCell ⟨b', j, none⟩ v) b cs t := by
  unfold Blk
  rw [Below.heap_setCell w ⟨b', j, none⟩ v b hne]
  exact h
theorem Blk.alloc {w : World} {b : Nat} {cs : Array Value} {t : TypeId} (h : Blk w b cs t) (o : Obj) : Blk (w.alloc o) b cs t := by
  unfold Blk
  rw [Below.heap_alloc w o b h.lt]
  exact h
theorem Blk.new (w : World) (cs : Array Value) (t : TypeId) : Blk (w.alloc (.cells cs t)) w.heap.size cs t := heap_alloc_new w _
theorem Blk.putRow {α : Type} [Inhabited α] {w : World} {b g q : Nat} {cs : Array Value} {t : TypeId} {enc : α → Value} {d : Array α} (h : Blk w b cs t) (hne : b ≠ g) : Blk (Sort.putRow enc (Sort.ahead w q) g 0 d) b cs t := by
  unfold Blk at h ⊢
  simp [Sort.putRow, mapBlock, Sort.ahead, Array.getElem?_modify, show g ≠ b from fun e => hne e.symm, h]
theorem Blk.putSame {α : Type} [Inhabited α] {w : World} {g q n : Nat} {f : Nat → Value} {t : TypeId} {enc : α → Value} {d : Array α} (h : Blk w g (vals n f) t) (hd : d.size = n) : Blk (Sort.putRow enc (Sort.ahead w q) g 0 d) g (vals n (fun j => enc d[j]!)) t := by
  have e1 : putCells enc 0 d (vals n f) = vals n (fun j => enc d[j]!) := by
    apply Array.ext_getElem?
    intro j
    simp only [putCells, Array.getElem?_mapIdx]
    by_cases hj : j < n
    · rw [vals_at n _ hj, vals_at n _ hj, Option.map_some, if_pos ⟨by omega, by omega⟩]
      rfl
    · rw [Array.getElem?_eq_none (by rw [vals_size]; omega), Array.getElem?_eq_none (by rw [vals_size]; omega)]
      rfl
  unfold Blk at h ⊢
  simp [Sort.putRow, mapBlock, Sort.ahead, Array.getElem?_modify, h, onCells, e1]

/-! ### pointers into the pool -/
def pt (pb i : Nat) : Value := .pointer (some ⟨pb, i * 10, none⟩)
def enc (pb : Nat) (o : Option Nat) : Value := .pointer (o.map fun i => ⟨pb, i * 10, none⟩)

theorem info30 : ∃ j, Yba.prog.info? 30 = some j ∧ j.size ≠ 0 := by
  refine ⟨_, rfl, ?_⟩
  decide +kernel

theorem eql_pt (w : World) (pb : Nat) (cs : Array Value) (o : Option Nat) (t : Nat) (h : Blk w pb cs 31) :
    (binOp .eql 34 (enc pb o) (pt pb t)).run Yba.prog w = .ok (.bool (decide (o = some t))) w := by
  obtain ⟨j, hj, hs⟩ := info30
  cases o with
  | none =>
    unfold enc pt
    have : ∀ d : Nat, (Op.equalIn (d + 1) 34 (.pointer none) (.pointer (some ⟨pb, t * 10, none⟩))).run Yba.prog w = .ok false w := fun d => by
      simp [Op.equalIn, run_underlying Yba.underlying34]
    simp only [binOp, Option.map_none]
    simp [Op.equal, Op.maxDepth, this 9999]
  | some i =>
    by_cases e : i = t
    · subst e
      simpa [enc, pt] using run_eql_ptr_same w ⟨pb, i * 10, none⟩ Yba.underlying34 hj
    · have := run_eql_ptr_other (P := Yba.prog) w (a := ⟨pb, i * 10, none⟩) (b := ⟨pb, t * 10, none⟩) Yba.underlying34 hj hs (by simp [e]) h h
      simpa [enc, pt, e] using this

theorem neq_pt (w : World) (pb i : Nat) :
    (binOp .neq 34 (pt pb i) (pt pb i)).run Yba.prog w = .ok (.bool false) w := by
  obtain ⟨j, hj, hs⟩ := info30
  have h : ∀ d : Nat, (Op.equalIn (d + 1) 34 (.pointer (some ⟨pb, i * 10, none⟩)) (.pointer (some ⟨pb, i * 10, none⟩))).run Yba.prog w = .ok true w := fun d => by
    simp [Op.equalIn, run_underlying Yba.underlying34, sizeOf, typeInfo, hj, run_sameAddr_same]
  unfold pt
  simp only [binOp]
  simp [Op.equal, Op.maxDepth, h 9999]

/-- The closure: 'w == c', in whatever world holds c in its box. -/
theorem gives6 (o : Option Nat) (t pb B : Nat) (cs : Array Value) (W : World) (hc : W.cell? ⟨B, 0, none⟩ = some (pt pb t)) (hp : Blk W pb cs 31) :
    FnGives Yba.prog 6 #[.pointer (some ⟨B, 0, none⟩)] #[enc pb o] (.bool (decide (o = some t))) W := by
  show Calls Yba.prog 6 #[enc pb o, .pointer (some ⟨B, 0, none⟩)] W _
  have he := eql_pt W pb cs o t hp
  unfold enc pt at *
  generalize (o.map fun i => (⟨pb, i * 10, none⟩ : Addr)) = x at he
  generalize decide (o = some t) = r at he
  have hP := (show Hid (Blk W pb cs 31) from hp)
  clear hp
  generalize (⟨pb, t * 10, none⟩ : Addr) = y at he hc
  go_enter Yba.func6, Yba.ntmps6
  go_wp2
  all_goals (go_ret; exact ⟨rfl, 0, rfl⟩)

theorem filter_some (ks : List Nat) (t : Nat) : ((ks.map some).toArray.toList.filter fun x => !decide (x = some t)) = (ks.filter fun k => !decide (k = t)).map some := by
  simp only [List.toList_toArray, List.filter_map]
  congr 1
  apply List.filter_congr
  intro x _
  simp

/-- slices.DeleteFunc over the closure: of the row that holds '&pool[k]' for k in ks, those with k other than t stay, in their order. -/
theorem delete_any (w : World) (pb wb B t cap : Nat) (ks : List Nat) (cs : Array Value) (hp : Blk w pb cs 31) (hB : w.cell? ⟨B, 0, none⟩ = some (pt pb t)) (hBlt : B < w.heap.size) (hBw : B ≠ wb) (hpw : pb ≠ wb)
    (g : Nat → Value) (hw : Blk w wb (vals ks.length g) 34) (hg : ∀ j, j < ks.length → g j = pt pb ks[j]!) (hn : ks.length ≤ 1024) (hcap : ks.length ≤ cap) :
    Calls Yba.prog 5 #[.slice (some ⟨wb, 0, none⟩) ks.length cap, .func (.func 6) #[] #[.pointer (some ⟨B, 0, none⟩)]] w fun e w' =>
      e = .returned (.slice (some ⟨wb, 0, none⟩) (ks.filter fun k => !decide (k = t)).length cap) ∧ ∃ q d, d.size = ks.length ∧ w' = Sort.putRow (enc pb) (Sort.ahead w q) wb 0 d ∧ ∀ j, j < (ks.filter fun k => !decide (k = t)).length → d[j]! = some (ks.filter fun k => !decide (k = t))[j]! := by
  have eg : ∀ args w, (callFunc 6 args).run Yba.prog w = .ok (.enter 6 args) w := enters_of Yba.func6 (by kernel_rfl) rfl
  have hH : Holds (enc pb) w wb 0 (ks.map some).toArray := fun j hj => by
    have hj' : j < ks.length := by simpa using hj
    refine ⟨?_, by rw [Nat.zero_add]; exact hw.frozen j⟩
    rw [Nat.zero_add, hw.at hj', hg j hj']
    simp [hj', enc, pt]
  have hP : PredAt Yba.prog 6 #[.pointer (some ⟨B, 0, none⟩)] (enc pb) (fun o => decide (o = some t)) w := fun W x hb =>
    gives6 x t pb B cs W ((hb.cell (p := ⟨B, 0, none⟩) hBlt).trans hB) (by unfold Blk at hp ⊢; rw [hb.block pb (Blk.lt hp)]; exact hp)
  have hO : PredOver Yba.prog 6 #[.pointer (some ⟨B, 0, none⟩)] (enc pb) (fun o => decide (o = some t)) wb 0 (ks.map some).toArray.size w := fun n os dk x _ =>
    gives6 x t pb B cs _ (by
      unfold sortWorld
      rw [cell?_grow _ _ _ (by show B < (Sort.putRow _ _ _ _ _).heap.size; rw [size_putRow]; exact hBlt), cell?_putRow_other _ _ wb 0 _ _ (Or.inl hBw)]
      exact hB) (by
      unfold sortWorld Blk
      rw [heap_grow_old _ _ (by rw [size_putRow]; exact hp.lt)]
      exact hp.putRow hpw)
  have hcon := AnyE.slices_DeleteFunc l10 (enc pb) (fun _ => rfl) (fun o => decide (o = some t)) 6 #[.pointer (some ⟨B, 0, none⟩)] eg none (by intro w; kernel_rfl) wb 0 cap (ks.map some).toArray w hP hO hH (by simp; omega) (by simpa using hcap)
  rw [filter_some] at hcon
  change Calls Yba.prog 5 _ _ _ at hcon
  have hle : (ks.filter fun k => !decide (k = t)).length ≤ ks.length := List.length_filter_le _ _
  simp only [List.length_map, List.size_toArray] at hcon
  refine hcon.mono ?_
  rintro e w' ⟨rfl, q, rfl⟩
  refine ⟨rfl, q, _, ?_, rfl, ?_⟩
  · simp; omega
  · intro j hj
    generalize (ks.filter fun k => !decide (k = t)) = F at hj ⊢
    rw [getElem!_pos _ j (by simp; omega), getElem!_pos F j hj]
    simp [List.getElem_append, hj]

def keep (was : Bool) (t : Nat) (ks : List Nat) : List Nat := if was then ks.filter fun k => !decide (k = t) else ks

/-- What stands in memory: the pool, the channel, the row of those that wait. -/
structure Mem (w : World) (B0 pb cb wb n : Nat) (f : Nat → Value) (L : List Nat) : Prop where
  bp : B0 ≤ pb
  bc : B0 ≤ cb
  bw : B0 ≤ wb
  pool : Blk w pb (vals 80 f) 31
  ch : ∃ h, Blk w cb (vals 14 h) 51 ∧ h 7 = .slice (some ⟨wb, 0, none⟩) L.length n
  row : ∃ g, Blk w wb (vals n g) 34 ∧ ∀ j, j < L.length → g j = pt pb L[j]!

set_option maxHeartbeats 800000 in
theorem unwait_any (w : World) (B0 pb cb wb t : Nat) (ks : List Nat) (f : Nat → Value) (was : Bool) (hm : Mem w B0 pb cb wb ks.length f ks) (ht : t < 8) (hf : f (t * 10 + 7) = .bool was) (hn : ks.length ≤ 1024) (hB0 : B0 ≤ w.heap.size) :
    Calls Yba.prog 4 #[.pointer (some ⟨cb, 0, none⟩), .pointer (some ⟨pb, t * 10, none⟩)] w fun e w' => e = .returned (.tuple #[]) ∧ Below B0 w w' ∧ Mem w' B0 pb cb wb ks.length (upd f (t * 10 + 7) (.bool false)) (keep was t ks) := by
  obtain ⟨bp, bc, bw, hp, ⟨h, hc, h7⟩, ⟨g, hw, hg⟩⟩ := hm
  have hpw : pb ≠ wb := hp.ne hw (by decide)
  have hcw : cb ≠ wb := hc.ne hw (by decide)
  have hcp : cb ≠ pb := hc.ne hp (by decide)
  have np : w.heap.size ≠ pb := by have := hp.lt; omega
  have nw : w.heap.size ≠ wb := by have := hw.lt; omega
  have box := Blk.new w (vals 1 fun _ => pt pb t) 34
  have hp1 := hp.alloc (.cells (vals 1 fun _ => pt pb t) 34)
  have hc1 := hc.alloc (.cells (vals 1 fun _ => pt pb t) 34)
  have hw1 := hw.alloc (.cells (vals 1 fun _ => pt pb t) 34)
  have hb1 : Below B0 w (w.alloc (.cells (vals 1 fun _ => pt pb t) 34)) := (Below.refl B0 w).alloc hB0 _
  have ev : vals 1 (fun _ => pt pb t) = #[.pointer (some ⟨pb, t * 10, none⟩)] := rfl
  rw [ev] at box hp1 hc1 hw1 hb1
  have x1 : (w.alloc (.cells #[.pointer (some ⟨pb, t * 10, none⟩)] 34)).cell? ⟨w.heap.size, 0, none⟩ = some (.pointer (some ⟨pb, t * 10, none⟩)) := box.cell 0
  have x2 := hp1.at (show t * 10 + 7 < 80 by omega)
  rw [hf] at x2
  have x3 := hc1.at (show 7 < 14 by omega)
  rw [h7] at x3
  have fz := hp1.frozen (t * 10 + 7)
  cases was with
  | false =>
    have e1 : upd f (t * 10 + 7) (.bool false) = f := by funext i; unfold upd; split <;> simp_all
    have HM : Hid (Mem (w.alloc (.cells #[.pointer (some ⟨pb, t * 10, none⟩)] 34)) B0 pb cb wb ks.length (upd f (t * 10 + 7) (.bool false)) (keep false t ks)) := by
      rw [e1]
      exact (show Hid _ from ⟨bp, bc, bw, hp1, ⟨h, hc1, h7⟩, ⟨g, hw1, hg⟩⟩)
    clear hp1 hc1 hw1 box hp hc hw hg e1 hf h7
    go_enter Yba.func4, Yba.ntmps4
    go_wp2
    go_end0
    exact ⟨rfl, hb1, HM.out⟩
  | true =>
    have hp2 := hp1.set (t * 10 + 7) (.bool false)
    have hc2 := hc1.setOther hcp (t * 10 + 7) (.bool false)
    have hw2 := hw1.setOther (fun e => hpw e.symm) (t * 10 + 7) (.bool false)
    have box2 := box.setOther np (t * 10 + 7) (.bool false)
    have hb2 := hb1.setCell (p := ⟨pb, t * 10 + 7, none⟩) bp (.bool false)
    have x4 := hc2.at (show 7 < 14 by omega)
    rw [h7] at x4
    have hD := delete_any _ pb wb w.heap.size t ks.length ks _ hp2 (box2.cell 0) box2.lt nw hpw g hw2 hg hn (Nat.le_refl _)
    have HF : ∀ q d, d.size = ks.length → (∀ j, j < (ks.filter fun k => !decide (k = t)).length → d[j]! = some (ks.filter fun k => !decide (k = t))[j]!) →
        ∃ W, W = Sort.putRow (enc pb) (Sort.ahead ((w.alloc (.cells #[.pointer (some ⟨pb, t * 10, none⟩)] 34)).setCell ⟨pb, t * 10 + 7, none⟩ (.bool false)) q) wb 0 d ∧ (∃ v, W.cell? ⟨cb, 7, none⟩ = some v) ∧ W.frozen? ⟨cb, 7, none⟩ = false ∧
          Hid (Below B0 w (W.setCell ⟨cb, 7, none⟩ (.slice (some ⟨wb, 0, none⟩) (ks.filter fun k => !decide (k = t)).length ks.length)) ∧ Mem (W.setCell ⟨cb, 7, none⟩ (.slice (some ⟨wb, 0, none⟩) (ks.filter fun k => !decide (k = t)).length ks.length)) B0 pb cb wb ks.length (upd f (t * 10 + 7) (.bool false)) (keep true t ks)) := by
      intro q d hd hj
      have hc3 := hc2.putRow (enc := enc pb) (d := d) (q := q) hcw
      have hp3 := hp2.putRow (enc := enc pb) (d := d) (q := q) hpw
      have hw3 := hw2.putSame (enc := enc pb) (d := d) (q := q) hd
      have hb3 := below_putRow (enc := enc pb) (d := d) (q := q) hb2 bw
      refine ⟨_, rfl, ⟨_, hc3.at (show 7 < 14 by omega)⟩, hc3.frozen 7, ?_⟩
      refine (show Hid _ from ⟨hb3.setCell (p := ⟨cb, 7, none⟩) bc _, bp, bc, bw, hp3.setOther (fun e => hcp e.symm) 7 _, ⟨_, hc3.set 7 _, by rw [upd_same]; rfl⟩, ⟨_, hw3.setOther (fun e => hcw e.symm) 7 _, ?_⟩⟩)
      intro j hj'
      have := hj j hj'
      show enc pb d[j]! = pt pb (ks.filter fun k => !decide (k = t))[j]!
      rw [this]
      rfl
    have HF := (show Hid _ from HF)
    clear hp1 hc1 hw1 box hp hc hw hg hf h7 hp2 hc2 hw2 box2 hb2 hb1
    generalize (ks.filter fun k => !decide (k = t)) = F at hD HF
    go_enter Yba.func4, Yba.ntmps4
    go_wp2_with fail
    refine hD.mono ?_
    rintro e w3 ⟨rfl, q, d, hd, hw3, hj⟩
    obtain ⟨W, hW, ⟨v, hv⟩, hfz, HM⟩ := HF.out q d hd hj
    obtain rfl : w3 = W := hw3.trans hW.symm
    clear hw3 hW HF hj
    go_wp2
    go_end0
    exact ⟨rfl, HM.out⟩
end Go.Proofs.Ybulktii
