/-
  Seat b0970a, LawS0970CInOrder: the contracts of isDropped (function 13), NewGates (8) and Drop (9).
-/
import Derived.Test.YbulktbiGates
import Derived.Deep.OwnRows
namespace Go.Proofs.Ybulktbi
set_option linter.unusedSimpArgs false
open Go.RowKit
set_option linter.unusedVariables false

theorem info4 : (Yba.prog.info? 4).map (fun i => (i.zero, i.size, i.bytes)) = some (some (.bool false), 1, 1) := by kernel_rfl

theorem nilEq31 (w : World) (a : Option Addr) (n c n' c' : Nat) : (binOp .eql 31 (.slice a n c) (.slice none n' c')).run Yba.prog w = .ok (.bool a.isNone) w := Lib.run_eql_slice_nil w _ _ a n c n' c' Yba.underlying31
theorem nilNe31 (w : World) (a : Option Addr) (n c n' c' : Nat) : (binOp .neq 31 (.slice a n c) (.slice none n' c')).run Yba.prog w = .ok (.bool (!a.isNone)) w := run_neq_slice_nil_any w _ _ a n c n' c' Yba.underlying31

set_option maxHeartbeats 400000 in
theorem isDropped_any (w : World) (B G D count m r : Nat) (dr : Nat → Bool) (sd : Ent → Value) (wt : Nat → List Ent) (hv : Nat → Value) (h : Gt w B G D count m dr sd wt hv) (hr : r < count) (hc : count ≤ 8) :
    Calls Yba.prog 13 #[.pointer (some ⟨G, 0, none⟩), .int .i64 r] w fun e w' => e = .returned (.bool (dr r)) ∧ w = w' := by
  have q1 := nilNe31
  obtain ⟨kn, mv, dv, hG, hd, hm⟩ := h.ex
  have c3 : w.cell? ⟨G, 3, none⟩ = some dv := hG.cell 3
  have hri : (r : Int) < (count : Int) := by omega
  rcases hd with ⟨rfl, hf⟩ | ⟨gd, rfl, hB, hne, hb⟩
  · rw [hf r hr]
    clear hf hm h
    go_enter Yba.func13, Yba.ntmps13
    go_wp2
    go_ret
    exact ⟨rfl, rfl⟩
  · have c4 : w.cell? ⟨gd, r, none⟩ = some (.bool (dr r)) := (hb.cell r).trans (vals_at count _ hr)
    clear hm h
    go_enter Yba.func13, Yba.ntmps13
    go_wp2
    go_ret
    exact ⟨rfl, rfl⟩

theorem vals_congr {n : Nat} {f g : Nat → Value} (h : ∀ i, i < n → f i = g i) : vals n f = vals n g := by
  apply Array.ext_getElem?
  intro i
  by_cases hi : i < n
  · rw [vals_at n _ hi, vals_at n _ hi, h i hi]
  · rw [Array.getElem?_eq_none (by rw [vals_size]; omega), Array.getElem?_eq_none (by rw [vals_size]; omega)]

theorem made_vals (z : Value) (n : Nat) : madeCells #[z] n = vals n (fun _ => z) := by
  apply Array.ext_getElem?
  intro i
  by_cases hi : i < n
  · rw [vals_at n _ hi]
    simp [madeCells, hi, Nat.mod_one]
  · rw [Array.getElem?_eq_none (by rw [size_madeCells]; omega), Array.getElem?_eq_none (by rw [vals_size]; omega)]

/-- 'delete(m, r)' at the operation. -/
theorem wpList_delete_is {w : World} {ops : Array Oper} {rest : List Oper} {o : Oper} {a : Act} {Q : Exit → Act → World → Prop} (hg : o.guard = none) (m x : Operand) (hop : o.op = Op.call { callee := Callee.builtin Builtin.delete, args := #[m, x], argTypes := #[43, 3] })
    {M mm count r : Nat} {wt : Nat → List Ent} {hv : Nat → Value} (hm : a.eval m = .map (some M)) (h : MapIs w M mm count wt hv) (hx : a.eval x = .int .i64 r) (hr : r < count) (hc : count ≤ 8)
    (hK : ∀ w', MapIs w' M mm count (upd wt r []) (upd hv r nilS) → w.grownBy w' (some M) → wpList Yba.prog ops Q rest (a.put o.dst (.tuple #[])) w') : wpList Yba.prog ops Q (o :: rest) a w := by
  refine wpList_plain hg fun K' hK' => ?_
  obtain ⟨w', hrun, r1, r2⟩ := h.del hr hc o.type
  unfold Oper.wp
  simp [execOp, hop, resolve, invoke, builtin, hm, hx, hrun, Result.andThen]
  exact hK' _ _ (hK w' r1 r2)

/-- What Drop leaves of everything else. -/
structure DropFr (B D : Nat) (w w' : World) : Prop where
  st : Stays B [45, 4] w w'
  d : ∀ cs, Blk w D cs 4 → Blk w' D cs 4

/-- The Gates behind the three stores of Drop, its map still as it was. -/
theorem gt_dropped {w w' : World} {B G D count m r : Nat} {dr : Nat → Bool} {sd : Ent → Value} {wt : Nat → List Ent} {hv : Nat → Value} (h : Gt w B G D count m dr sd wt hv) (hr : r < count)
    {kn gd : Nat} {mv : Value} (hG : Blk w' G #[.int .u64 4, .slice (some ⟨kn, 0, none⟩) count count, mv, .slice (some ⟨gd, 0, none⟩) count count] 45) (hB : B ≤ gd) (hD : gd ≠ D) (hgd : Blk w' gd (vals count (boolsV (upd dr r true))) 4)
    (hm : MapV w' B m count (upd wt r []) (upd hv r nilS) mv) (h47 : ∀ b cs, Blk w b cs 47 → Blk w' b cs 47) : Gt w' B G D count m (upd dr r true) sd (upd wt r []) (upd hv r nilS) := by
  refine ⟨⟨kn, mv, _, hG, .inr ⟨gd, rfl, hB, hD, hgd⟩, hm⟩, fun r' hr' => ?_, fun a b ha hb hne g hga => ?_, fun r' hr' => ?_, h.base⟩
  · by_cases e : r' = r
    · subst e; rw [upd_same, upd_same]; exact World.ownsRow_nil _ _ _ _
    · rw [upd_other _ _ e, upd_other _ _ e]; exact own47 (h.rows r' hr') h47
  · by_cases ea : a = r
    · subst ea; rw [upd_same] at hga; simp [nilS, Value.ownBlock] at hga
    · rw [upd_other _ _ ea] at hga
      by_cases eb : b = r
      · subst eb; rw [upd_same]; simp [nilS, Value.ownBlock]
      · rw [upd_other _ _ eb]; exact h.apart a b ha hb hne g hga
  · by_cases e : r' = r
    · subst e; rw [upd_same]; simp
    · rw [upd_other _ _ e]; exact h.len r' hr'

theorem mapV_nil {w : World} {B m count r : Nat} {wt : Nat → List Ent} {hv : Nat → Value} (he : ∀ r, r < count → wt r = [] ∧ hv r = nilS) : MapV w B m count (upd wt r []) (upd hv r nilS) (.map none) := by
  refine .inl ⟨rfl, fun r' hr' => ?_⟩
  by_cases e : r' = r
  · subst e; exact ⟨upd_same _ _ _, upd_same _ _ _⟩
  · rw [upd_other _ _ e, upd_other _ _ e]; exact he r' hr'

theorem bools_upd (dr : Nat → Bool) (r : Nat) (b : Bool) : upd (boolsV dr) r (.bool b) = boolsV (upd dr r b) := by
  funext i
  simp only [upd, boolsV]
  split <;> rfl

set_option maxHeartbeats 800000 in
/-- Drop where some receiver has been dropped before. -/
theorem drop_later (w : World) (B G D count m r : Nat) (dr : Nat → Bool) (sd : Ent → Value) (wt : Nat → List Ent) (hv : Nat → Value) (h : Gt w B G D count m dr sd wt hv) (hr : r < count) (hc : count ≤ 8) (hB : B ≤ w.heap.size)
    (kn gd : Nat) (mv : Value) (hG : Blk w G #[.int .u64 4, .slice (some ⟨kn, 0, none⟩) count count, mv, .slice (some ⟨gd, 0, none⟩) count count] 45) (hgB : B ≤ gd) (hne : gd ≠ D) (hb : Blk w gd (vals count (boolsV dr)) 4) (hm : MapV w B m count wt hv mv) :
    Calls Yba.prog 9 #[.pointer (some ⟨G, 0, none⟩), .int .i64 r] w fun e w' => e = .returned (.tuple #[]) ∧ Gt w' B G D count m (upd dr r true) sd (upd wt r []) (upd hv r nilS) ∧ DropFr B D w w' := by
  have q1 := nilEq31
  have c2 : w.cell? ⟨G, 2, none⟩ = some mv := hG.cell 2
  have c3 : w.cell? ⟨G, 3, none⟩ = some (.slice (some ⟨gd, 0, none⟩) count count) := hG.cell 3
  have hri : (r : Int) < (count : Int) := by omega
  have c4 : w.cell? ⟨gd, r, none⟩ = some (.bool (dr r)) := (hb.cell r).trans (vals_at count _ hr)
  have f4 := hb.frozen r
  have hGg : G ≠ gd := hG.ne hb (by decide)
  have c2' : (w.setCell ⟨gd, r, none⟩ (.bool true)).cell? ⟨G, 2, none⟩ = some mv := (hG.setOther hGg r (.bool true)).cell 2
  have hgd' : Blk (w.setCell ⟨gd, r, none⟩ (.bool true)) gd (vals count (boolsV (upd dr r true))) 4 := by rw [← bools_upd]; exact vals_store hb r _
  have hst : DropFr B D w (w.setCell ⟨gd, r, none⟩ (.bool true)) := ⟨(Stays.refl _ _ _).setCell hb (by simp) hgB r _, fun cs hd => hd.setOther (fun e => hne e.symm) r _⟩
  have h47 : ∀ b cs, Blk w b cs 47 → Blk (w.setCell ⟨gd, r, none⟩ (.bool true)) b cs 47 := fun b cs hx => hx.setOther (hx.ne hb (by decide)) r _
  have hG' := hG.setOther hGg r (.bool true)
  rcases hm with ⟨rfl, he⟩ | ⟨M, rfl, hMB, hM⟩
  · have hdn := fun ty => Maps.drop_nil (P := Yba.prog) (w := w.setCell ⟨gd, r, none⟩ (.bool true)) law Yba.underlying43 (key_of r (by omega)) ty
    have HG := gt_dropped h hr hG' hgB hne hgd' (mapV_nil he) h47
    clear h he hb hG hG' hgd' h47
    go_enter Yba.func9, Yba.ntmps9
    go_wp2
    go_end0
    exact ⟨rfl, HG, hst⟩
  · obtain ⟨es, ck, hes⟩ := hM.isMap
    have hMg : M ≠ gd := fun e => by subst e; unfold Blk at hb; rw [hes] at hb; simp at hb
    have hes' : (w.setCell ⟨gd, r, none⟩ (.bool true)).heap[M]? = some (.map es ck) := (Below.heap_setCell w ⟨gd, r, none⟩ (.bool true) M hMg).trans hes
    have hM' : MapIs (w.setCell ⟨gd, r, none⟩ (.bool true)) M m count wt hv := hM.kept (Below.heap_setCell w ⟨gd, r, none⟩ (.bool true) M hMg)
    have HM := (show Hid _ from hM')
    have HFin : ∀ w', MapIs w' M m count (upd wt r []) (upd hv r nilS) → (w.setCell ⟨gd, r, none⟩ (.bool true)).grownBy w' (some M) → Gt w' B G D count m (upd dr r true) sd (upd wt r []) (upd hv r nilS) ∧ DropFr B D w w' := by
      intro w' hm' hg'
      have hk : ∀ b cs t, Blk (w.setCell ⟨gd, r, none⟩ (.bool true)) b cs t → Blk w' b cs t := fun b cs t hx => hx.grown hg' (fun e => by cases e; unfold Blk at hx; rw [hes'] at hx; simp at hx)
      exact ⟨gt_dropped h hr (hk _ _ _ hG') hgB hne (hk _ _ _ hgd') (.inr ⟨M, rfl, hMB, hm'⟩) (fun b cs hx => hk _ _ _ (h47 b cs hx)), hst.st.grownMap hg' (by simp [World.setCell]; exact hB) hMB hes', fun cs hd => hk _ _ _ (hst.d cs hd)⟩
    have HF := (show Hid _ from HFin)
    clear h hb hG hG' hgd' h47 hM hM' hes hes' HFin hst
    go_enter Yba.func9, Yba.ntmps9
    go_wp2_with (at_delete; refine wpList_delete_is rfl _ _ rfl rfl HM.out rfl hr hc ?_)
    intro w' hm' hg'
    have HG := HF.out w' hm' hg'
    clear hm' hg' HF HM
    go_wp2
    go_end0
    exact ⟨rfl, HG.1, HG.2⟩


set_option maxHeartbeats 800000 in
/-- Drop where no receiver has been dropped before. -/
theorem drop_first (w : World) (B G D count m r : Nat) (dr : Nat → Bool) (sd : Ent → Value) (wt : Nat → List Ent) (hv : Nat → Value) (h : Gt w B G D count m dr sd wt hv) (hr : r < count) (hc : count ≤ 8) (hB : B ≤ w.heap.size) (hDw : D < w.heap.size)
    (kn : Nat) (mv : Value) (hG : Blk w G #[.int .u64 4, .slice (some ⟨kn, 0, none⟩) count count, mv, .slice none 0 0] 45) (hf : ∀ r, r < count → dr r = false) (hm : MapV w B m count wt hv mv) :
    Calls Yba.prog 9 #[.pointer (some ⟨G, 0, none⟩), .int .i64 r] w fun e w' => e = .returned (.tuple #[]) ∧ Gt w' B G D count m (upd dr r true) sd (upd wt r []) (upd hv r nilS) ∧ DropFr B D w w' := by
  have q1 := nilEq31
  have hmk := run_make_row' (P := Yba.prog) 31 4 (.bool false) 1 Yba.underlying31 info4 rfl .i64 .i64 count (by omega) (by omega)
  rw [made_vals] at hmk
  have c1 : w.cell? ⟨G, 1, none⟩ = some (.slice (some ⟨kn, 0, none⟩) count count) := hG.cell 1
  have c2 : w.cell? ⟨G, 2, none⟩ = some mv := hG.cell 2
  have c3 : w.cell? ⟨G, 3, none⟩ = some (.slice none 0 0) := hG.cell 3
  have f3 := hG.frozen 3
  have hri : (r : Int) < (count : Int) := by omega
  have hGw := hG.lt
  have hdn := fun (wx : World) ty => Maps.drop_nil (P := Yba.prog) (w := wx) law Yba.underlying43 (key_of r (by omega)) ty
  have hva : (vals count fun _ => Value.bool false)[r]? = some (.bool false) := vals_at count _ hr
  have hvs : (vals count fun _ => Value.bool false).setIfInBounds r (.bool true) = vals count (boolsV (upd dr r true)) := by
    rw [vals_set]
    exact vals_congr (fun i hi => by
      by_cases e : i = r
      · subst e; simp [boolsV, upd]
      · simp [boolsV, upd, e, hf i hi])
  have hG1 : Blk ((w.setCell ⟨G, 3, none⟩ (.slice (some ⟨w.heap.size, 0, none⟩) count count)).alloc (.cells (vals count (boolsV (upd dr r true))) 4)) G #[.int .u64 4, .slice (some ⟨kn, 0, none⟩) count count, mv, .slice (some ⟨w.heap.size, 0, none⟩) count count] 45 := (hG.set 3 _).alloc _
  have hsz : (w.setCell ⟨G, 3, none⟩ (.slice (some ⟨w.heap.size, 0, none⟩) count count)).heap.size = w.heap.size := by simp [World.setCell]
  have hgd1 : Blk ((w.setCell ⟨G, 3, none⟩ (.slice (some ⟨w.heap.size, 0, none⟩) count count)).alloc (.cells (vals count (boolsV (upd dr r true))) 4)) w.heap.size (vals count (boolsV (upd dr r true))) 4 := by
    have := Blk.new (w.setCell ⟨G, 3, none⟩ (.slice (some ⟨w.heap.size, 0, none⟩) count count)) (vals count (boolsV (upd dr r true))) 4
    rw [hsz] at this
    exact this
  have hst : DropFr B D w ((w.setCell ⟨G, 3, none⟩ (.slice (some ⟨w.heap.size, 0, none⟩) count count)).alloc (.cells (vals count (boolsV (upd dr r true))) 4)) :=
    ⟨((Stays.refl _ _ _).setCell hG (by simp) h.base 3 _).alloc (by rw [hsz]; exact hB) _, fun cs hd => (hd.setOther (hd.ne hG (by decide)) 3 _).alloc _⟩
  have h47 : ∀ b cs, Blk w b cs 47 → Blk ((w.setCell ⟨G, 3, none⟩ (.slice (some ⟨w.heap.size, 0, none⟩) count count)).alloc (.cells (vals count (boolsV (upd dr r true))) 4)) b cs 47 := fun b cs hx => (hx.setOther (hx.ne hG (by decide)) 3 _).alloc _
  rcases hm with ⟨rfl, he⟩ | ⟨M, rfl, hMB, hM⟩
  · have HG := (show Hid _ from And.intro (gt_dropped h hr hG1 hB (by omega) hgd1 (mapV_nil he) h47) hst)
    clear h he hG hf hG1 hgd1 hst h47
    go_enter Yba.func9, Yba.ntmps9
    go_wp2
    go_end0
    exact ⟨rfl, HG.out.1, HG.out.2⟩
  · obtain ⟨es, ck, hes⟩ := hM.isMap
    have hMw : M < w.heap.size := (Array.getElem?_eq_some_iff.1 hes).1
    have hMG : M ≠ G := fun e => by subst e; unfold Blk at hG; rw [hes] at hG; simp at hG
    have hk : ((w.setCell ⟨G, 3, none⟩ (.slice (some ⟨w.heap.size, 0, none⟩) count count)).alloc (.cells (vals count (boolsV (upd dr r true))) 4)).heap[M]? = w.heap[M]? := by
      rw [Below.heap_alloc _ _ M (by rw [hsz]; exact hMw)]
      exact Below.heap_setCell w ⟨G, 3, none⟩ _ M hMG
    have HM := (show Hid _ from hM.kept hk)
    have HFin : ∀ w', MapIs w' M m count (upd wt r []) (upd hv r nilS) → ((w.setCell ⟨G, 3, none⟩ (.slice (some ⟨w.heap.size, 0, none⟩) count count)).alloc (.cells (vals count (boolsV (upd dr r true))) 4)).grownBy w' (some M) → Gt w' B G D count m (upd dr r true) sd (upd wt r []) (upd hv r nilS) ∧ DropFr B D w w' := by
      intro w' hm' hg'
      have hes' := hk.trans hes
      have hkk : ∀ b cs t, Blk ((w.setCell ⟨G, 3, none⟩ (.slice (some ⟨w.heap.size, 0, none⟩) count count)).alloc (.cells (vals count (boolsV (upd dr r true))) 4)) b cs t → Blk w' b cs t := fun b cs t hx => hx.grown hg' (fun e => by cases e; unfold Blk at hx; rw [hes'] at hx; simp at hx)
      exact ⟨gt_dropped h hr (hkk _ _ _ hG1) hB (by omega) (hkk _ _ _ hgd1) (.inr ⟨M, rfl, hMB, hm'⟩) (fun b cs hx => hkk _ _ _ (h47 b cs hx)), hst.st.grownMap hg' (by simp [World.setCell]; omega) hMB hes', fun cs hd => hkk _ _ _ (hst.d cs hd)⟩
    have HF := (show Hid _ from HFin)
    clear h hG hf hG1 hgd1 hst h47 hM hes HFin hk hdn
    go_enter Yba.func9, Yba.ntmps9
    go_wp2_with (at_delete; refine wpList_delete_is rfl _ _ rfl rfl HM.out rfl hr hc ?_)
    intro w' hm' hg'
    have HG := HF.out w' hm' hg'
    clear hm' hg' HF HM
    go_wp2
    go_end0
    exact ⟨rfl, HG.1, HG.2⟩

theorem drop_any (w : World) (B G D count m r : Nat) (dr : Nat → Bool) (sd : Ent → Value) (wt : Nat → List Ent) (hv : Nat → Value) (h : Gt w B G D count m dr sd wt hv) (hr : r < count) (hc : count ≤ 8) (hB : B ≤ w.heap.size) (hDw : D < w.heap.size) :
    Calls Yba.prog 9 #[.pointer (some ⟨G, 0, none⟩), .int .i64 r] w fun e w' => e = .returned (.tuple #[]) ∧ Gt w' B G D count m (upd dr r true) sd (upd wt r []) (upd hv r nilS) ∧ DropFr B D w w' := by
  obtain ⟨kn, mv, dv, hG, hd, hm⟩ := h.ex
  rcases hd with ⟨rfl, hf⟩ | ⟨gd, rfl, hgB, hne, hb⟩
  · exact drop_first w B G D count m r dr sd wt hv h hr hc hB hDw kn mv hG hf hm
  · exact drop_later w B G D count m r dr sd wt hv h hr hc hB kn gd mv hG hgB hne hb hm

theorem info70 : (Yba.prog.info? 70).map (fun i => (i.zero, i.size, i.bytes)) = some (some (.agg #[.int .u64 0, .pointer none, .int .i64 0]), 3, 24) := by kernel_rfl

set_option maxHeartbeats 400000 in
theorem newGates_any (w : World) (count : Nat) (hc : count ≤ 8) :
    Calls Yba.prog 8 #[.int .i64 count, .int .u64 4] w fun e w' => ∃ G, e = .returned (.pointer (some ⟨G, 0, none⟩)) ∧ (∀ D sd, Gt w' w.heap.size G D count 0 (fun _ => false) sd (fun _ => []) (fun _ => nilS)) ∧ Stays w.heap.size [] w w' ∧ w.heap.size ≤ w'.heap.size := by
  obtain ⟨i0, hi, hz0, hz1, hz2⟩ := info_parts info70
  go_enter Yba.func8, Yba.ntmps8
  go_wp2_with (at_make; refine wpList_make_full _ rfl _ _ 42 rfl w.heap.size 70 i0 _ 3 Yba.underlying42 hi hz0 hz1 _ _ _ _ count rfl rfl (by omega) (by omega) (by rw [hz2]; omega) (by unfold maxLen; omega) (by omega) ?_)
  intro w1 hown hg
  have hs1 := hg.size
  clear hown
  go_wp2
  go_ret
  refine ⟨w1.heap.size, rfl, fun D sd => ⟨⟨w.heap.size, .map none, .slice none 0 0, Blk.new w1 _ 45, .inl ⟨rfl, fun _ _ => rfl⟩, .inl ⟨rfl, fun _ _ => ⟨rfl, rfl⟩⟩⟩, fun r _ => World.ownsRow_nil _ _ _ _, fun a b _ _ _ g h => by simp [nilS, Value.ownBlock] at h, fun r _ => by simp, hs1⟩, ?_, by simp; omega⟩
  exact ((Stays.refl _ _ _).grown hg (Nat.le_refl _) (fun k hk => by cases hk)).alloc hs1 _

end Go.Proofs.Ybulktbi
