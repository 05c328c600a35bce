/-
  Seat b0970a, LawS0970CInOrder: what the walks are told of a Gates in memory; lemmas outside the walk.
-/
import Derived.Test.YbulktbiPlain
import Derived.Test.YbulktbiRows
import Derived.WalkKit
import Derived.WalkLawsBesides
import Derived.WalkSpells
import Derived.Maps.OwnSet
namespace Go.Proofs.Ybulktbi
set_option linter.unusedSimpArgs false
open Go.RowKit
set_option linter.unusedVariables false

/-! ### rows whose cell r is 'f r' -/
def valsL (n : Nat) (f : Nat → Value) : List Value := (List.range n).map f
def vals (n : Nat) (f : Nat → Value) : Array Value := (valsL n f).toArray
def upd {α : Type} (f : Nat → α) (r : Nat) (v : α) : Nat → α := fun i => if i = r then v else f i

theorem upd_same {α : Type} (f : Nat → α) (r : Nat) (v : α) : upd f r v r = v := by simp [upd]
theorem upd_other {α : Type} (f : Nat → α) {r i : Nat} (v : α) (h : i ≠ r) : upd f r v i = f i := by simp [upd, h]

theorem vals_size (n : Nat) (f : Nat → Value) : (vals n f).size = n := by simp [vals, valsL]
theorem vals_at (n : Nat) (f : Nat → Value) {r : Nat} (h : r < n) : (vals n f)[r]? = some (f r) := by simp [vals, valsL, h]
theorem vals_set (n : Nat) (f : Nat → Value) (r : Nat) (v : Value) : (vals n f).setIfInBounds r v = vals n (upd f r v) := by
  apply Array.ext_getElem?
  intro i
  rw [Array.getElem?_setIfInBounds]
  by_cases h : r = i
  · subst h
    rw [if_pos rfl, vals_size]
    by_cases hr : r < n
    · rw [if_pos hr, vals_at n _ hr, upd_same]
    · rw [if_neg hr, Array.getElem?_eq_none (by rw [vals_size]; omega)]
  · rw [if_neg h]
    by_cases hi : i < n
    · rw [vals_at n _ hi, vals_at n _ hi, upd_other _ _ (fun e => h e.symm)]
    · rw [Array.getElem?_eq_none (by rw [vals_size]; omega), Array.getElem?_eq_none (by rw [vals_size]; omega)]

/-- The world in which cell r of such a row has been written. -/
theorem vals_store {w : World} {b n : Nat} {f : Nat → Value} {t : TypeId} (h : w.heap[b]? = some (.cells (vals n f) t (0, 0))) (r : Nat) (v : Value) :
    (w.setCell ⟨b, r, none⟩ v).heap[b]? = some (.cells (vals n (upd f r v)) t (0, 0)) := by
  rw [heap_setCell_same w b r _ t v h, vals_set]

/-! ### what stays -/
/-- A block of cells, with its element type. -/
def Blk (w : World) (b : Nat) (cs : Array Value) (t : TypeId) : Prop := w.heap[b]? = some (.cells cs t (0, 0))

/-- Blocks whose element type is none of the listed ones stand as they stood; nothing below B has turned. -/
structure Stays (B : Nat) (bad : List TypeId) (w w' : World) : Prop where
  below : Below B w w'
  keep : ∀ b cs t, Blk w b cs t → t ∉ bad → Blk w' b cs t

theorem Blk.lt {w : World} {b : Nat} {cs : Array Value} {t : TypeId} (h : Blk w b cs t) : b < w.heap.size := (Array.getElem?_eq_some_iff.1 h).1
theorem Blk.ne {w : World} {b b' : Nat} {cs cs' : Array Value} {t t' : TypeId} (h : Blk w b cs t) (h' : Blk w b' cs' t') (hne : t ≠ t') : b ≠ b' := by
  rintro rfl
  unfold Blk at h h'
  rw [h] at h'
  simp at h'
  exact hne h'.2
theorem Blk.cell {w : World} {b : Nat} {cs : Array Value} {t : TypeId} (h : Blk w b cs t) (j : Nat) : w.cell? ⟨b, j, none⟩ = cs[j]? := cell_of_row w b j cs t (0, 0) h
theorem Blk.frozen {w : World} {b : Nat} {cs : Array Value} {t : TypeId} (h : Blk w b cs t) (j : Nat) : w.frozen? ⟨b, j, none⟩ = false := frozen_of_row w b j cs t h
theorem Blk.set {w : World} {b : Nat} {cs : Array Value} {t : TypeId} (h : Blk w b cs t) (j : Nat) (v : Value) : Blk (w.setCell ⟨b, j, none⟩ v) b (cs.setIfInBounds j v) t := heap_setCell_same w b j cs t v h
theorem Blk.setOther {w : World} {b b' : Nat} {cs : Array Value} {t : TypeId} (h : Blk w b cs t) (hne : b ≠ b') (j : Nat) (v : Value) : Blk (w.setCell ⟨b', j, none⟩ v) b cs t := by
  unfold Blk
  rw [Below.heap_setCell w ⟨b', j, none⟩ v b hne]
  exact h
theorem Blk.alloc {w : World} {b : Nat} {cs : Array Value} {t : TypeId} (h : Blk w b cs t) (o : Obj) : Blk (w.alloc o) b cs t := by
  unfold Blk
  rw [Below.heap_alloc w o b h.lt]
  exact h
theorem Blk.new (w : World) (cs : Array Value) (t : TypeId) : Blk (w.alloc (.cells cs t)) w.heap.size cs t := heap_alloc_new w _
theorem Blk.drewN {w : World} {b : Nat} {cs : Array Value} {t : TypeId} (h : Blk w b cs t) (n : Nat) : Blk (w.drewN n) b cs t := h
theorem Blk.grown {w w' : World} {b : Nat} {cs : Array Value} {t : TypeId} {row : Option Nat} (h : Blk w b cs t) (hg : w.grownBy w' row) (hne : some b ≠ row) : Blk w' b cs t := (hg.block b h.lt hne).trans h

theorem Stays.refl (B : Nat) (bad : List TypeId) (w : World) : Stays B bad w w := ⟨Below.refl _ _, fun _ _ _ h _ => h⟩
theorem Stays.trans {B : Nat} {bad : List TypeId} {a b c : World} (h : Stays B bad a b) (k : Stays B bad b c) : Stays B bad a c := ⟨h.below.trans k.below, fun x cs t hx ht => k.keep x cs t (h.keep x cs t hx ht) ht⟩
theorem Stays.alloc {B : Nat} {bad : List TypeId} {a w : World} (h : Stays B bad a w) (hB : B ≤ w.heap.size) (o : Obj) : Stays B bad a (w.alloc o) := ⟨h.below.alloc hB o, fun x cs t hx ht => (h.keep x cs t hx ht).alloc o⟩
theorem Stays.drewN {B : Nat} {bad : List TypeId} {a w : World} (h : Stays B bad a w) (n : Nat) : Stays B bad a (w.drewN n) := ⟨below_drewN h.below n, fun x cs t hx ht => (h.keep x cs t hx ht)⟩
theorem Stays.more {B : Nat} {bad bad' : List TypeId} {a w : World} (h : Stays B bad a w) (hb : ∀ t ∈ bad, t ∈ bad') : Stays B bad' a w := ⟨h.below, fun x cs t hx ht => h.keep x cs t hx (fun h' => ht (hb t h'))⟩
/-- A store into a block whose type is listed. -/
theorem Stays.setCell {B : Nat} {bad : List TypeId} {a w : World} (h : Stays B bad a w) {b : Nat} {cs : Array Value} {t : TypeId} (hb : Blk w b cs t) (ht : t ∈ bad) (hB : B ≤ b) (j : Nat) (v : Value) : Stays B bad a (w.setCell ⟨b, j, none⟩ v) :=
  ⟨h.below.setCell (by exact hB) v, fun x cs' t' hx ht' => by
    have h' := h.keep x cs' t' hx ht'
    exact h'.setOther (fun e => by subst e; unfold Blk at h' hb; rw [h'] at hb; simp at hb; exact ht' (hb.2 ▸ ht)) j v⟩
/-- Growth that writes one row whose type is listed. -/
theorem Stays.grown {B : Nat} {bad : List TypeId} {a w w' : World} {row : Option Nat} (h : Stays B bad a w) (hg : w.grownBy w' row) (hB : B ≤ w.heap.size) (hr : ∀ k, row = some k → B ≤ k ∧ ∃ cs t, Blk w k cs t ∧ t ∈ bad) : Stays B bad a w' :=
  ⟨h.below.grown hg hB (fun k hk => (hr k hk).1), fun x cs' t' hx ht' => by
    have h' := h.keep x cs' t' hx ht'
    refine h'.grown hg (fun e => ?_)
    obtain ⟨_, cs, t, hb, ht⟩ := hr x e.symm
    unfold Blk at h' hb
    rw [h'] at hb
    simp at hb
    exact ht' (hb.2 ▸ ht)⟩
/-- .. that writes a map alone. -/
theorem Stays.grownMap {B : Nat} {bad : List TypeId} {a w w' : World} {M : Nat} {es : Array MapEntry} {c : Nat} (h : Stays B bad a w) (hg : w.grownBy w' (some M)) (hB : B ≤ w.heap.size) (hM : B ≤ M) (hm : w.heap[M]? = some (.map es c)) : Stays B bad a w' :=
  ⟨h.below.grown hg hB (fun k hk => by cases hk; exact hM), fun x cs' t' hx ht' => by
    have h' := h.keep x cs' t' hx ht'
    refine h'.grown hg (fun e => ?_)
    cases e
    unfold Blk at h'
    rw [hm] at h'
    simp at h'⟩

/-! ### the map -/
/-- An element of the map is read as it stands. -/
def rawR (v : Value) : Option (DataW Value × List MemPlace) := some (.held v, [])
theorem law : Maps.Keyed Yba.prog 3 := Maps.int_keyed Yba.underlying3
theorem zero41 (w : World) : (zeroValue 41).run Yba.prog w = .ok (.slice none 0 0) w := by kernel_rfl

def nilS : Value := .slice none 0 0
/-- How many of the first 'count' lists are not empty. -/
def nonE : Nat → (Nat → List Ent) → Nat
  | 0, _ => 0
  | c + 1, wt => nonE c wt + if (wt c).isEmpty then 0 else 1

theorem nonE_far (c : Nat) (wt : Nat → List Ent) {r : Nat} (l : List Ent) (h : c ≤ r) : nonE c (upd wt r l) = nonE c wt := by
  induction c with
  | zero => rfl
  | succ c ih => rw [nonE, nonE, ih (by omega), upd_other _ _ (by omega)]

theorem nonE_upd (c : Nat) (wt : Nat → List Ent) {r : Nat} (l : List Ent) (h : r < c) :
    nonE c (upd wt r l) + (if (wt r).isEmpty then 0 else 1) = nonE c wt + if l.isEmpty then 0 else 1 := by
  induction c with
  | zero => omega
  | succ c ih =>
    rw [nonE, nonE]
    by_cases hr : r = c
    · subst hr
      rw [nonE_far r wt l (Nat.le_refl _), upd_same]
      omega
    · rw [upd_other _ _ (fun e => hr e.symm)]
      have := ih (by omega)
      omega

structure MapIs (w : World) (M m count : Nat) (wt : Nat → List Ent) (hv : Nat → Value) : Prop where
  ex : ∃ D, w.ownsMap Yba.prog 3 rawR M m D ∧ (∀ r, r < count → D.atKey (.int .i64 r) (.held nilS) = .held (hv r)) ∧ (∀ r, r < count → Maps.has D (.int .i64 r) = !(wt r).isEmpty) ∧ Maps.size D = nonE count wt

theorem key_of (r : Nat) (h : r < 1000) : keyOf Yba.prog 3 (.int .i64 r) = some (.int .i64 r) := Maps.keyOf_int_mk Yba.underlying3 (WalkArith.wf_i64 (by omega))
theorem key_lit {r : Nat} : WideAt.IsKeyLit (Lit.int .i64 (r : Int)) := by unfold WideAt.IsKeyLit; trivial
theorem key_ne {r r' : Nat} (h : r' ≠ r) : (Lit.int .i64 (r' : Int)) ≠ .int .i64 (r : Int) := by
  intro e
  simp at e
  omega

theorem MapIs.kept {w w' : World} {M m count : Nat} {wt : Nat → List Ent} {hv : Nat → Value} (h : MapIs w M m count wt hv) (hk : w'.heap[M]? = w.heap[M]?) : MapIs w' M m count wt hv := by
  obtain ⟨D, ⟨es, clock, hb, rest⟩, h2⟩ := h.ex
  exact ⟨D, ⟨es, clock, hk.trans hb, rest⟩, h2⟩

theorem MapIs.isMap {w : World} {M m count : Nat} {wt : Nat → List Ent} {hv : Nat → Value} (h : MapIs w M m count wt hv) : ∃ es c, w.heap[M]? = some (.map es c) := by
  obtain ⟨D, ⟨es, clock, hb, _⟩, _⟩ := h.ex
  exact ⟨es, clock, hb⟩

theorem MapIs.made (w : World) (count : Nat) (wt : Nat → List Ent) (hv : Nat → Value) (he : ∀ r, r < count → wt r = [] ∧ hv r = nilS) : MapIs (w.alloc (.map #[] 0)) w.heap.size 0 count wt hv := by
  refine ⟨.map [], World.ownsMap_made w _ _ _, fun r hr => ?_, fun r hr => ?_, ?_⟩
  · rw [(he r hr).2]; rfl
  · rw [(he r hr).1]; rfl
  · suffices h : ∀ c, c ≤ count → nonE c wt = 0 by rw [h count (Nat.le_refl _)]; rfl
    intro c
    induction c with
    | zero => intro _; rfl
    | succ c ih => intro hc; rw [nonE, ih (by omega), (he c (by omega)).1]; rfl

theorem MapIs.look {w : World} {M m count : Nat} {wt : Nat → List Ent} {hv : Nat → Value} (h : MapIs w M m count wt hv) {r : Nat} (hr : r < count) (hc : count ≤ 8) :
    (Instr.lookup 43 (.map (some M)) (.int .i64 r) false).run Yba.prog w = .ok (hv r) w := by
  obtain ⟨D, ho, hat, _⟩ := h.ex
  obtain ⟨v, ps, hrun, hv'⟩ := ho.lookup law Yba.underlying43 (zero41 w) (zd := .held nilS) (zp := []) rfl (key_of r (by omega))
  rw [hat r hr] at hv'
  simp only [rawR, Option.some.injEq, Prod.mk.injEq, DataW.held.injEq] at hv'
  rw [← hv'.1]
  exact hrun

theorem MapIs.len {w : World} {M m count : Nat} {wt : Nat → List Ent} {hv : Nat → Value} (h : MapIs w M m count wt hv) (ty : TypeId) :
    (Builtin.len_ #[43] ty #[.map (some M)]).run Yba.prog w = .ok (.int .i64 (nonE count wt)) w := by
  obtain ⟨D, ho, _, _, hs⟩ := h.ex
  rw [← hs]
  exact ho.len Yba.underlying43 ty

theorem MapIs.put {w : World} {M m count : Nat} {wt : Nat → List Ent} {hv : Nat → Value} (h : MapIs w M m count wt hv) {r : Nat} (hr : r < count) (hc : count ≤ 8) (hm : m ≤ 1024) (l : List Ent) (hl : l.isEmpty = false) (v : Value) :
    ∃ w', (Instr.mapUpdate 43 (.map (some M)) (.int .i64 r) v).run Yba.prog w = .ok () w' ∧ MapIs w' M (m + 1) count (upd wt r l) (upd hv r v) ∧ w.grownBy w' (some M) := by
  obtain ⟨D, ho, hat, hhas, hs⟩ := h.ex
  obtain ⟨w', hrun, ho', hg⟩ := ho.update law Yba.underlying43 (by unfold maxLen; omega) (key_of r (by omega)) (d := .held v) (ps := []) rfl
  refine ⟨w', hrun, ⟨_, ho', fun r' hr' => ?_, fun r' hr' => ?_, ?_⟩, hg⟩
  · by_cases e : r' = r
    · subst e; rw [upd_same, Maps.atKey_put_same ho.isMap key_lit]
    · rw [upd_other _ _ e, Maps.atKey_put_other (key_ne e)]; exact hat r' hr'
  · by_cases e : r' = r
    · subst e; rw [upd_same, Maps.has_put_same ho.isMap key_lit, hl]; rfl
    · rw [upd_other _ _ e, Maps.has_put_other (key_ne e)]; exact hhas r' hr'
  · rw [Maps.size_put (ho.tidy law), hhas r hr, hs]
    have := nonE_upd count wt l hr
    rw [hl] at this
    cases he : (wt r).isEmpty <;> simp [he] at this ⊢ <;> omega

theorem MapIs.del {w : World} {M m count : Nat} {wt : Nat → List Ent} {hv : Nat → Value} (h : MapIs w M m count wt hv) {r : Nat} (hr : r < count) (hc : count ≤ 8) (ty : TypeId) :
    ∃ w', (Builtin.delete_ #[43, 3] ty #[.map (some M), .int .i64 r]).run Yba.prog w = .ok (.tuple #[]) w' ∧ MapIs w' M m count (upd wt r []) (upd hv r nilS) ∧ w.grownBy w' (some M) := by
  obtain ⟨D, ho, hat, hhas, hs⟩ := h.ex
  obtain ⟨w', hrun, ho', ht⟩ := ho.drop law Yba.underlying43 (key_of r (by omega)) ty
  refine ⟨w', hrun, ⟨_, ho', fun r' hr' => ?_, fun r' hr' => ?_, ?_⟩, ht.grown⟩
  · by_cases e : r' = r
    · subst e; rw [upd_same, Maps.atKey_del_same]
    · rw [upd_other _ _ e, Maps.atKey_del_other (key_ne e)]; exact hat r' hr'
  · by_cases e : r' = r
    · subst e; rw [upd_same, Maps.has_del_same]; rfl
    · rw [upd_other _ _ e, Maps.has_del_other (key_ne e)]; exact hhas r' hr'
  · have h1 := Maps.size_del (k := .int .i64 (r : Int)) (ho.tidy law)
    rw [hhas r hr, hs] at h1
    have := nonE_upd count wt [] hr
    cases he : (wt r).isEmpty <;> simp [he] at this h1 ⊢ <;> omega

/-! ### a Gates -/
def fn (x : Ent) : Value := .int .u64 x.n
def boolsV (dr : Nat → Bool) : Nat → Value := fun r => .bool (dr r)

def DropV (w : World) (B D count : Nat) (dr : Nat → Bool) (dv : Value) : Prop :=
  (dv = .slice none 0 0 ∧ ∀ r, r < count → dr r = false) ∨ ∃ gd, dv = .slice (some ⟨gd, 0, none⟩) count count ∧ B ≤ gd ∧ gd ≠ D ∧ Blk w gd (vals count (boolsV dr)) 4

def MapV (w : World) (B m count : Nat) (wt : Nat → List Ent) (hv : Nat → Value) (mv : Value) : Prop :=
  (mv = .map none ∧ ∀ r, r < count → wt r = [] ∧ hv r = nilS) ∨ ∃ M, mv = .map (some M) ∧ B ≤ M ∧ MapIs w M m count wt hv

structure Gt (w : World) (B G D count m : Nat) (dr : Nat → Bool) (sd : Ent → Value) (wt : Nat → List Ent) (hv : Nat → Value) : Prop where
  ex : ∃ kn mv dv, Blk w G #[.int .u64 4, .slice (some ⟨kn, 0, none⟩) count count, mv, dv] 45 ∧ DropV w B D count dr dv ∧ MapV w B m count wt hv mv
  rows : ∀ r, r < count → w.ownsRow B 47 2 (hv r) (wt r).length (cells2 fn sd (wt r))
  apart : ∀ r r', r < count → r' < count → r ≠ r' → ∀ g, (hv r).ownBlock = some g → (hv r').ownBlock ≠ some g
  len : ∀ r, r < count → (wt r).length ≤ m
  base : B ≤ G

/-- What a Gates leans on stands. -/
structure Gk (D : Nat) (w w' : World) : Prop where
  cells : ∀ b cs t, Blk w b cs t → (t = 45 ∨ t = 47 ∨ (t = 4 ∧ b ≠ D)) → Blk w' b cs t
  maps : ∀ (b : Nat) (es : Array MapEntry) (c : Nat), w.heap[b]? = some (.map es c) → w'.heap[b]? = some (.map es c)

theorem own47 {w w' : World} {B n : Nat} {v : Value} {xs : List Value} {e : TypeId} {sz : Nat} (h : w.ownsRow B e sz v n xs) (hk : ∀ b cs, Blk w b cs e → Blk w' b cs e) : w'.ownsRow B e sz v n xs := by
  refine ⟨h.1, ?_⟩
  rcases h.2 with h' | ⟨g, cap, cur, hv, hb, hg, rest⟩
  · exact .inl h'
  · exact .inr ⟨g, cap, cur, hv, hb, hk g cur hg, rest⟩

theorem Gt.keep {w w' : World} {B G D count m : Nat} {dr : Nat → Bool} {sd : Ent → Value} {wt : Nat → List Ent} {hv : Nat → Value} (h : Gt w B G D count m dr sd wt hv) (hk : Gk D w w') : Gt w' B G D count m dr sd wt hv := by
  obtain ⟨kn, mv, dv, hG, hd, hm⟩ := h.ex
  refine ⟨⟨kn, mv, dv, hk.cells _ _ _ hG (.inl rfl), ?_, ?_⟩, fun r hr => own47 (h.rows r hr) (fun b cs hb => hk.cells b cs 47 hb (.inr (.inl rfl))), h.apart, h.len, h.base⟩
  · rcases hd with hd | ⟨gd, e, hB, hne, hb⟩
    · exact .inl hd
    · exact .inr ⟨gd, e, hB, hne, hk.cells _ _ _ hb (.inr (.inr ⟨rfl, hne⟩))⟩
  · rcases hm with hm | ⟨M, e, hB, hb⟩
    · exact .inl hm
    · obtain ⟨es, c, hes⟩ := hb.isMap
      exact .inr ⟨M, e, hB, hb.kept ((hk.maps M es c hes).trans hes.symm)⟩

theorem Gk.refl (D : Nat) (w : World) : Gk D w w := ⟨fun _ _ _ h _ => h, fun _ _ _ h => h⟩
theorem Gk.trans {D : Nat} {a b c : World} (h : Gk D a b) (k : Gk D b c) : Gk D a c := ⟨fun x cs t hx ht => k.cells x cs t (h.cells x cs t hx ht) ht, fun x es n hx => k.maps x es n (h.maps x es n hx)⟩
theorem Gk.alloc {D : Nat} {a w : World} (h : Gk D a w) (o : Obj) : Gk D a (w.alloc o) :=
  ⟨fun x cs t hx ht => (h.cells x cs t hx ht).alloc o, fun x es n hx => by
    have h' := h.maps x es n hx
    rw [Below.heap_alloc w o x (Array.getElem?_eq_some_iff.1 h').1]
    exact h'⟩
theorem Gk.drewN {D : Nat} {a w : World} (h : Gk D a w) (n : Nat) : Gk D a (w.drewN n) := ⟨h.cells, h.maps⟩
/-- A store into a block of another type, or into block D. -/
theorem Gk.setCell {D : Nat} {a w : World} (h : Gk D a w) {b : Nat} {cs : Array Value} {t : TypeId} (hb : Blk w b cs t) (ht : t ≠ 45 ∧ t ≠ 47 ∧ (t = 4 → b = D)) (j : Nat) (v : Value) : Gk D a (w.setCell ⟨b, j, none⟩ v) := by
  refine ⟨fun x cs' t' hx ht' => ?_, fun x es n hx => ?_⟩
  · have h' := h.cells x cs' t' hx ht'
    refine h'.setOther (fun e => ?_) j v
    subst e
    unfold Blk at h' hb
    rw [h'] at hb
    simp at hb
    obtain ⟨_, rfl⟩ := hb
    obtain ⟨h1, h2, h3⟩ := ht
    rcases ht' with h | h | ⟨h, h4⟩
    · exact h1 h
    · exact h2 h
    · exact h4 (h3 h)
  · have h' := h.maps x es n hx
    rw [Below.heap_setCell w ⟨b, j, none⟩ v x (fun e => by subst e; unfold Blk at hb; rw [hb] at h'; simp at h')]
    exact h'
/-- Growth that writes one row of another type. -/
theorem Gk.grown {D : Nat} {a w w' : World} {row : Option Nat} (h : Gk D a w) (hg : w.grownBy w' row) (hr : ∀ k, row = some k → ∃ cs t, Blk w k cs t ∧ t ≠ 45 ∧ t ≠ 47 ∧ t ≠ 4) : Gk D a w' := by
  refine ⟨fun x cs' t' hx ht' => ?_, fun x es n hx => ?_⟩
  · have h' := h.cells x cs' t' hx ht'
    refine h'.grown hg (fun e => ?_)
    obtain ⟨cs, t, hb, h1, h2, h3⟩ := hr x e.symm
    unfold Blk at h' hb
    rw [h'] at hb
    simp at hb
    obtain ⟨_, rfl⟩ := hb
    rcases ht' with h | h | ⟨h, _⟩
    · exact h1 h
    · exact h2 h
    · exact h3 h
  · have h' := h.maps x es n hx
    rw [hg.block x (Array.getElem?_eq_some_iff.1 h').1 (fun e => by
      obtain ⟨cs, t, hb, _⟩ := hr x e.symm
      unfold Blk at hb
      rw [hb] at h'
      simp at h')]
    exact h'

end Go.Proofs.Ybulktbi
