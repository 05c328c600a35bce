/-
  Seat b0970a, LawS0970CInOrder: the first loop: what holds at each round's head; lemmas outside the walk.
-/
import Derived.Test.YbulktbiHoldNew
import Derived.Test.YbulktbiSort
namespace Go.Proofs.Ybulktbi
set_option linter.unusedSimpArgs false
open Go.RowKit
set_option linter.unusedVariables false

/-- The send of an entry: the closure over the log and the place. -/
def sdL (L : Nat) (x : Ent) : Value := .func (.func 11) #[] #[.pointer (some ⟨L, 0, none⟩), .pointer (some ⟨x.q, 0, none⟩)]

structure Ph1 (w0 w : World) (B G E D L count idx : Nat) (dr : Nat → Bool) (ex : Nat → List Ent) (hv ev : Nat → Value) : Prop where
  gt : Gt w B G D count idx dr (sdL L) (fun r => isort (ex r)) hv
  eb : Blk w E (vals count ev) 36
  db : Blk w D (vals count (boolsV dr)) 4
  lb : Blk w L #[nilS] 32
  rows : ∀ r, r < count → w.ownsRow B 39 2 (ev r) (ex r).length (cells2 fn fk (ex r))
  apart : ∀ r r', r < count → r' < count → r ≠ r' → ∀ g, (ev r).ownBlock = some g → (ev r').ownBlock ≠ some g
  nil : ∀ r, r < count → ex r = [] → ev r = nilS
  len : ∀ r, r < count → (ex r).length ≤ idx
  ks : ∀ r, r < count → ∀ x ∈ ex r, Blk w x.q #[.int .i64 x.k] 3
  drop : ∀ r, r < count → dr r = true → ex r = []
  below : Below B w0 w
  bE : B ≤ E
  bD : B ≤ D
  bL : B ≤ L
  size : B ≤ w.heap.size

theorem Gt.mono {w : World} {B G D count m : Nat} {dr : Nat → Bool} {sd : Ent → Value} {wt : Nat → List Ent} {hv : Nat → Value} (h : Gt w B G D count m dr sd wt hv) : Gt w B G D count (m + 1) dr sd wt hv := by
  obtain ⟨kn, mv, dv, hG, hd, hm⟩ := h.ex
  refine ⟨⟨kn, mv, dv, hG, hd, ?_⟩, h.rows, h.apart, fun r hr => Nat.le_succ_of_le (h.len r hr), h.base⟩
  rcases hm with hm | ⟨M, e, hB, hM⟩
  · exact .inl hm
  · obtain ⟨D', ho, h2⟩ := hM.ex
    exact .inr ⟨M, e, hB, ⟨D', ho.mono (Nat.le_succ _), h2⟩⟩

theorem isort_upd (ex : Nat → List Ent) (r : Nat) (l : List Ent) : upd (fun r => isort (ex r)) r (isort l) = fun r' => isort (upd ex r l r') := by
  funext i
  simp only [upd]
  split <;> rfl

/-- A step that only makes blocks and draws. -/
theorem Ph1.grow {w0 w w' : World} {B G E D L count idx : Nat} {dr : Nat → Bool} {ex : Nat → List Ent} {hv ev : Nat → Value} (h : Ph1 w0 w B G E D L count idx dr ex hv ev) (hb : Below w.heap.size w w') : Ph1 w0 w' B G E D L count idx dr ex hv ev := by
  have hk : ∀ b cs t, Blk w b cs t → Blk w' b cs t := fun b cs t hx => (hb.block b hx.lt).trans hx
  refine ⟨h.gt.keep ⟨fun b cs t hx _ => hk b cs t hx, fun b es c hx => (hb.block b (Array.getElem?_eq_some_iff.1 hx).1).trans hx⟩, hk _ _ _ h.eb, hk _ _ _ h.db, hk _ _ _ h.lb, fun r hr => own47 (h.rows r hr) (fun b cs hx => hk b cs 39 hx), h.apart, h.nil, h.len, fun r hr x hx => hk _ _ _ (h.ks r hr x hx), h.drop, h.below.trans (hb.mono h.size), h.bE, h.bD, h.bL, Nat.le_trans h.size hb.size⟩

theorem Ph1.next {w0 w : World} {B G E D L count idx : Nat} {dr : Nat → Bool} {ex : Nat → List Ent} {hv ev : Nat → Value} (h : Ph1 w0 w B G E D L count idx dr ex hv ev) : Ph1 w0 w B G E D L count (idx + 1) dr ex hv ev :=
  ⟨h.gt.mono, h.eb, h.db, h.lb, h.rows, h.apart, h.nil, fun r hr => Nat.le_succ_of_le (h.len r hr), h.ks, h.drop, h.below, h.bE, h.bD, h.bL, h.size⟩

/-- Behind Drop and the two stores. -/
theorem Ph1.dropped {w0 w w1 : World} {B G E D L count idx r : Nat} {dr : Nat → Bool} {ex : Nat → List Ent} {hv ev : Nat → Value} (h : Ph1 w0 w B G E D L count idx dr ex hv ev) (hr : r < count)
    (hg : Gt w1 B G D count idx (upd dr r true) (sdL L) (upd (fun r => isort (ex r)) r []) (upd hv r nilS)) (hf : DropFr B D w w1) :
    Ph1 w0 ((w1.setCell ⟨D, r, none⟩ (.bool true)).setCell ⟨E, r, none⟩ (.slice none 0 0)) B G E D L count (idx + 1) (upd dr r true) (upd ex r []) (upd hv r nilS) (upd ev r nilS) := by
  have hE1 : Blk w1 E (vals count ev) 36 := hf.st.keep _ _ _ h.eb (by decide)
  have hD1 := hf.d _ h.db
  have hL1 : Blk w1 L #[nilS] 32 := hf.st.keep _ _ _ h.lb (by decide)
  have hDE : D ≠ E := h.db.ne h.eb (by decide)
  have hk39 : ∀ b cs t, Blk w b cs t → t ≠ 45 → t ≠ 4 → t ≠ 36 → Blk ((w1.setCell ⟨D, r, none⟩ (.bool true)).setCell ⟨E, r, none⟩ (.slice none 0 0)) b cs t := fun b cs t hx h1 h2 h3 => by
    have hx1 := hf.st.keep b cs t hx (by simp [h1, h2])
    exact (hx1.setOther (hx1.ne hD1 h2) r _).setOther (hx1.ne hE1 h3) r _
  have hE2 : Blk (w1.setCell ⟨D, r, none⟩ (.bool true)) E (vals count ev) 36 := hE1.setOther (fun e => hDE e.symm) r _
  refine ⟨?_, ?_, ?_, hk39 _ _ _ h.lb (by decide) (by decide) (by decide), fun r' hr' => ?_, fun a b ha hb hne g hga => ?_, fun r' hr' he => ?_, fun r' hr' => ?_, fun r' hr' x hx => ?_, fun r' hr' hd => ?_, ?_, h.bE, h.bD, h.bL, by simp [World.setCell]; exact Nat.le_trans h.size hf.st.below.size⟩
  · have e : (fun r' => isort (upd ex r [] r')) = upd (fun r => isort (ex r)) r [] := by rw [← isort_upd]; rfl
    rw [e]
    exact (hg.keep (((Gk.refl D w1).setCell hD1 ⟨by decide, by decide, fun _ => rfl⟩ r _).setCell hE2 ⟨by decide, by decide, fun h => by simp at h⟩ r _)).mono
  · exact vals_store hE2 r _
  · have := (vals_store hD1 r (.bool true))
    rw [bools_upd] at this
    exact (show Blk (w1.setCell ⟨D, r, none⟩ (.bool true)) D _ 4 from this).setOther hDE r _
  · by_cases e : r' = r
    · subst e; rw [upd_same, upd_same]; exact World.ownsRow_nil _ _ _ _
    · rw [upd_other _ _ e, upd_other _ _ e]; exact own47 (h.rows r' hr') (fun b cs hb => hk39 b cs 39 hb (by decide) (by decide) (by decide))
  · by_cases ea : a = r
    · subst ea; rw [upd_same] at hga; simp [nilS, Value.ownBlock] at hga
    · rw [upd_other _ _ ea] at hga
      by_cases eb : b = r
      · subst eb; rw [upd_same]; simp [nilS, Value.ownBlock]
      · rw [upd_other _ _ eb]; exact h.apart a b ha hb hne g hga
  · by_cases e : r' = r
    · subst e; rw [upd_same]
    · rw [upd_other _ _ e] at he ⊢; exact h.nil r' hr' he
  · by_cases e : r' = r
    · subst e; rw [upd_same]; simp
    · rw [upd_other _ _ e]; exact Nat.le_succ_of_le (h.len r' hr')
  · by_cases e : r' = r
    · subst e; rw [upd_same] at hx; cases hx
    · rw [upd_other _ _ e] at hx; exact hk39 _ _ _ (h.ks r' hr' x hx) (by decide) (by decide) (by decide)
  · by_cases e : r' = r
    · subst e; rw [upd_same]
    · rw [upd_other _ _ e] at hd ⊢; exact h.drop r' hr' hd
  · exact ((h.below.trans hf.st.below).setCell (by exact h.bD) _).setCell (by exact h.bE) _

/-- Behind Hold on a receiver that is dropped. -/
theorem Ph1.held_no {w0 w w1 : World} {B G E D L count idx : Nat} {dr : Nat → Bool} {ex : Nat → List Ent} {hv ev : Nat → Value} (h : Ph1 w0 w B G E D L count idx dr ex hv ev) {m : Nat}
    (hg : Gt w1 B G D count idx dr (sdL L) (fun r => isort (ex r)) hv) (hf : Stays B [45, 47] w w1) : Ph1 w0 w1 B G E D L count idx dr ex hv ev := by
  have hk : ∀ b cs t, Blk w b cs t → t ≠ 45 → t ≠ 47 → Blk w1 b cs t := fun b cs t hx h1 h2 => hf.keep b cs t hx (by simp [h1, h2])
  exact ⟨hg, hk _ _ _ h.eb (by decide) (by decide), hk _ _ _ h.db (by decide) (by decide), hk _ _ _ h.lb (by decide) (by decide), fun r hr => own47 (h.rows r hr) (fun b cs hx => hk b cs 39 hx (by decide) (by decide)), h.apart, h.nil, h.len, fun r hr x hx => hk _ _ _ (h.ks r hr x hx) (by decide) (by decide), h.drop, h.below.trans hf.below, h.bE, h.bD, h.bL, Nat.le_trans h.size hf.below.size⟩

/-- Behind Hold, ahead of the append to exp[r]: all but the rows of the one receiver agree. -/
structure Mid1 (w0 w : World) (B G E D L count idx r : Nat) (dr : Nat → Bool) (ex : Nat → List Ent) (hv ev : Nat → Value) (x : Ent) : Prop where
  gt : Gt w B G D count (idx + 1) dr (sdL L) (fun r' => isort (upd ex r (ex r ++ [x]) r')) hv
  eb : Blk w E (vals count ev) 36
  db : Blk w D (vals count (boolsV dr)) 4
  lb : Blk w L #[nilS] 32
  rows : ∀ r, r < count → w.ownsRow B 39 2 (ev r) (ex r).length (cells2 fn fk (ex r))
  apart : ∀ r r', r < count → r' < count → r ≠ r' → ∀ g, (ev r).ownBlock = some g → (ev r').ownBlock ≠ some g
  nil : ∀ r, r < count → ex r = [] → ev r = nilS
  len : ∀ r, r < count → (ex r).length ≤ idx
  ks : ∀ r, r < count → ∀ x ∈ ex r, Blk w x.q #[.int .i64 x.k] 3
  kx : Blk w x.q #[.int .i64 x.k] 3
  drop : ∀ r, r < count → dr r = true → ex r = []
  below : Below B w0 w
  bE : B ≤ E
  bD : B ≤ D
  bL : B ≤ L
  size : B ≤ w.heap.size

theorem Ph1.held {w0 w w1 : World} {B G E D L count idx r : Nat} {dr : Nat → Bool} {ex : Nat → List Ent} {hv ev : Nat → Value} (h : Ph1 w0 w B G E D L count idx dr ex hv ev) {x : Ent} {v : Value} (hx : Blk w x.q #[.int .i64 x.k] 3)
    (hg : Gt w1 B G D count (idx + 1) dr (sdL L) (upd (fun r => isort (ex r)) r (ins (isort (ex r)) x)) (upd hv r v)) (hf : Stays B [45, 47] w w1) : Mid1 w0 w1 B G E D L count idx r dr ex (upd hv r v) ev x := by
  have hk : ∀ b cs t, Blk w b cs t → t ≠ 45 → t ≠ 47 → Blk w1 b cs t := fun b cs t hx h1 h2 => hf.keep b cs t hx (by simp [h1, h2])
  refine ⟨?_, hk _ _ _ h.eb (by decide) (by decide), hk _ _ _ h.db (by decide) (by decide), hk _ _ _ h.lb (by decide) (by decide), fun r hr => own47 (h.rows r hr) (fun b cs hx => hk b cs 39 hx (by decide) (by decide)), h.apart, h.nil, h.len, fun r hr x hx => hk _ _ _ (h.ks r hr x hx) (by decide) (by decide), hk _ _ _ hx (by decide) (by decide), h.drop, h.below.trans hf.below, h.bE, h.bD, h.bL, Nat.le_trans h.size hf.below.size⟩
  have e : (fun r' => isort (upd ex r (ex r ++ [x]) r')) = upd (fun r => isort (ex r)) r (ins (isort (ex r)) x) := by rw [← isort_upd, isort_snoc]
  rw [e]
  exact hg

/-- Behind the append to exp[r] and the store. -/
theorem Mid1.done {w0 w w3 : World} {B G E D L count idx r : Nat} {dr : Nat → Bool} {ex : Nat → List Ent} {hv ev : Nat → Value} {x : Ent} (h : Mid1 w0 w B G E D L count idx r dr ex hv ev x) (hr : r < count) (hdr : dr r = false) {g cap : Nat} {o : Obj}
    (hown : w3.ownsRow B 39 2 (.slice (some ⟨g, 0, none⟩) ((ex r).length + 1) cap) ((ex r).length + 1) (cells2 fn fk (ex r) ++ [fn x, fk x])) (hgrow : (w.alloc o).grownBy w3 (ev r).ownBlock) (hat : (ev r).ownBlock = some g ∨ g = w.heap.size + 1) :
    Blk w3 E (vals count ev) 36 ∧ Ph1 w0 (w3.setCell ⟨E, r, none⟩ (.slice (some ⟨g, 0, none⟩) ((ex r).length + 1) cap)) B G E D L count (idx + 1) dr (upd ex r (ex r ++ [x])) hv (upd ev r (.slice (some ⟨g, 0, none⟩) ((ex r).length + 1) cap)) := by
  have ho := (h.rows r hr).alloc o
  have hk : ∀ b cs t, Blk w b cs t → t ≠ 39 → Blk w3 b cs t := fun b cs t hx ht => (hx.alloc o).grown hgrow (own_off ho (hx.alloc o) ht)
  have hE3 := hk _ _ _ h.eb (by decide)
  have hk' : ∀ b cs t, Blk w b cs t → t ≠ 39 → t ≠ 36 → Blk (w3.setCell ⟨E, r, none⟩ (.slice (some ⟨g, 0, none⟩) ((ex r).length + 1) cap)) b cs t := fun b cs t hx ht h36 => (hk b cs t hx ht).setOther ((hk b cs t hx ht).ne hE3 h36) r _
  have hmaps : ∀ (b : Nat) (es : Array MapEntry) (c : Nat), w.heap[b]? = some (.map es c) → (w3.setCell ⟨E, r, none⟩ (.slice (some ⟨g, 0, none⟩) ((ex r).length + 1) cap)).heap[b]? = some (.map es c) := by
    intro b es c hb
    have hlt : b < w.heap.size := (Array.getElem?_eq_some_iff.1 hb).1
    have hbE : b ≠ E := fun e => by subst e; have := h.eb; unfold Blk at this; rw [hb] at this; simp at this
    rw [Below.heap_setCell w3 ⟨E, r, none⟩ _ b hbE, hgrow.block b (by simp; omega) (fun e => by
      rcases ho.2 with ⟨e', _⟩ | ⟨g', cap', cur, e', _, hg', _⟩
      · rw [e'] at e; simp [Value.ownBlock] at e
      · rw [e'] at e; simp [Value.ownBlock] at e; subst e
        rw [Below.heap_alloc w o _ hlt, hb] at hg'
        simp at hg'), Below.heap_alloc w o b hlt]
    exact hb
  refine ⟨hE3, ⟨?_, vals_store hE3 r _, hk' _ _ _ h.db (by decide) (by decide), hk' _ _ _ h.lb (by decide) (by decide), fun r' hr' => ?_, fun a b ha hb hne g' hga => ?_, fun r' hr' he => ?_, fun r' hr' => ?_, fun r' hr' y hy => ?_, fun r' hr' hd => ?_, ?_, h.bE, h.bD, h.bL, ?_⟩⟩
  · exact h.gt.keep ⟨fun b cs t hx ht => hk' b cs t hx (by rcases ht with rfl | rfl | ⟨rfl, _⟩ <;> decide) (by rcases ht with rfl | rfl | ⟨rfl, _⟩ <;> decide), hmaps⟩
  · by_cases e : r' = r
    · subst e
      rw [upd_same, upd_same, List.length_append, cells2_append, cells2_cons, cells2_nil]
      exact own47 hown (fun b cs hb => hb.setOther (hb.ne hE3 (by decide)) r' _)
    · rw [upd_other _ _ e, upd_other _ _ e]
      have h1 : (ev r').ownBlock = none ∨ (ev r').ownBlock ≠ (ev r).ownBlock := by
        cases hq : (ev r').ownBlock with
        | none => exact .inl rfl
        | some g' => exact .inr (fun e2 => h.apart r r' hr hr' (fun e3 => e e3.symm) g' e2.symm hq)
      exact own47 (((h.rows r' hr').alloc o).kept hgrow h1) (fun b cs hb => hb.setOther (hb.ne hE3 (by decide)) r _)
  · have hoth : ∀ b, b < count → b ≠ r → (ev b).ownBlock ≠ some g := by
      intro b hb hbr e2
      rcases hat with hat | hat
      · exact h.apart r b hr hb (fun e3 => hbr e3.symm) g hat e2
      · have := ((h.rows b hb).lt g e2).2
        omega
    by_cases ea : a = r
    · subst ea
      rw [upd_same] at hga
      simp [Value.ownBlock] at hga
      subst hga
      rw [upd_other _ _ (fun e => hne e.symm)]
      exact hoth b hb (fun e => hne e.symm)
    · rw [upd_other _ _ ea] at hga
      by_cases eb : b = r
      · subst eb
        rw [upd_same]
        intro e2
        simp [Value.ownBlock] at e2
        subst e2
        exact hoth a ha ea hga
      · rw [upd_other _ _ eb]; exact h.apart a b ha hb hne g' hga
  · by_cases e : r' = r
    · subst e; rw [upd_same] at he; simp at he
    · rw [upd_other _ _ e] at he ⊢; exact h.nil r' hr' he
  · by_cases e : r' = r
    · subst e; rw [upd_same]; have := h.len r' hr; simp; omega
    · rw [upd_other _ _ e]; exact Nat.le_succ_of_le (h.len r' hr')
  · by_cases e : r' = r
    · subst e
      rw [upd_same] at hy
      rcases List.mem_append.1 hy with hy | hy
      · exact hk' _ _ _ (h.ks r' hr y hy) (by decide) (by decide)
      · simp at hy; subst hy; exact hk' _ _ _ h.kx (by decide) (by decide)
    · rw [upd_other _ _ e] at hy; exact hk' _ _ _ (h.ks r' hr' y hy) (by decide) (by decide)
  · by_cases e : r' = r
    · subst e; rw [hdr] at hd; cases hd
    · rw [upd_other _ _ e]; exact h.drop r' hr' hd
  · exact ((h.below.alloc h.size o).grown hgrow (by simp; have := h.size; omega) (fun k hk => ((h.rows r hr).lt k hk).1)).setCell (by exact h.bE) _
  · simp [World.setCell]
    have := hgrow.size
    have := h.size
    simp at *
    omega

end Go.Proofs.Ybulktbi
