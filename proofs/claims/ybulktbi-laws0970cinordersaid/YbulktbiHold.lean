/-
  Seat b0970a, LawS0970CInOrder: the contract of Hold (function 10).
-/
import Derived.Test.YbulktbiDrop
import Derived.Test.YbulktbiSearch
import Derived.Deep.RegionHeld3
import Derived.Deep.RegionLaw
import Derived.Deep.AppendLies
import Derived.Deep.DrawnRows
import Derived.Laws.EntriesVeiled
namespace Go.Proofs.Ybulktbi
set_option linter.unusedSimpArgs false
open Go.RowKit
set_option linter.unusedVariables false

theorem info47 : (Yba.prog.info? 47).map (fun i => (i.zero, i.size, i.bytes)) = some (some (.agg #[.int .u64 0, .nilFunc]), 2, 16) := by kernel_rfl
theorem nilEq43 (w : World) (r : Option Nat) : (binOp .eql 43 (.map r) (.map none)).run Yba.prog w = .ok (.bool r.isNone) w := run_eql_map_nil w _ _ _ r Yba.underlying43

/-- 'm[r]' at the operation; the world behind it is known by Φ alone. -/
theorem wpList_lookup_is {w : World} {ops : Array Oper} {rest : List Oper} {o : Oper} {a : Act} {Q : Exit → Act → World → Prop} (hg : o.guard = none) (m x : Operand) (hop : o.op = Op.lookup 43 m x false)
    {M r : Nat} (hm : a.eval m = .map (some M)) (hx : a.eval x = .int .i64 r) (v : Value) (hlook : (Instr.lookup 43 (.map (some M)) (.int .i64 r) false).run Yba.prog w = .ok v w)
    (Φ : World → Prop) (hΦ : Φ w) (hK : ∀ W, Φ W → wpList Yba.prog ops Q rest (a.put o.dst v) W) : wpList Yba.prog ops Q (o :: rest) a w := by
  refine wpList_plain hg fun K' hK' => ?_
  unfold Oper.wp
  simp [execOp, hop, hm, hx, hlook, Result.andThen]
  exact hK' _ _ (hK w hΦ)

/-- From here on the world is known by Φ alone. -/
theorem wp_forget {P : Program} {c : Code} {Q : Exit → Act → World → Prop} {a : Act} {w : World} (Φ : World → Prop) (hΦ : Φ w) (h : ∀ W, Φ W → c.wp P Q a W) : c.wp P Q a w := h w hΦ

/-- copy between slices of whatever element size, the destination in a row that is known whole. -/
theorem run_copy_size {P : Program} (w : World) (dT sT ty elem : TypeId) (size : Nat) (dp sp : Option Addr) (dLen dCap sLen sCap : Nat) (g off : Nat) (cur : Array Value) (t : TypeId) (cs : List Value)
    (hu : P.underlying dT = some (.slice elem)) (hs : (P.info? elem).map (·.size) = some size) (hg : w.heap[g]? = some (.cells cur t (0, 0))) (hn : cs.length = Nat.min sLen dLen * size)
    (hpos : 0 < cs.length → dp = some ⟨g, off, none⟩ ∧ ∃ ad, sp = some ad ∧ ∀ j v, cs[j]? = some v → w.cell? (ad.add j) = some v) (hfit : off + cs.length ≤ cur.size) (h1 : ∀ v ∈ cs, v.oneCell' = true) :
    (Builtin.copy_ #[dT, sT] ty #[.slice dp dLen dCap, .slice sp sLen sCap]).run P w = .ok (goInt (Nat.min sLen dLen)) (w.setRow g (cur.toList.take off ++ cs ++ cur.toList.drop (off + cs.length)).toArray) := by
  cases hq : P.info? elem with
  | none => simp [hq] at hs
  | some i =>
    have hi : i.size = size := by simpa [hq] using hs
    by_cases h0 : cs.length = 0
    · obtain rfl : cs = [] := List.eq_nil_of_length_eq_zero h0
      have hz : Nat.min sLen dLen * size = 0 := by simpa using hn.symm
      have hw : w.setRow g (cur.toList.take off ++ [] ++ cur.toList.drop (off + ([] : List Value).length)).toArray = w := by
        have : (cur.toList.take off ++ [] ++ cur.toList.drop (off + ([] : List Value).length)).toArray = cur := by simp
        rw [this]
        exact setRow_self w g cur t (0, 0) hg
      rw [hw]
      cases sp with
      | none => cases dp <;> simp [Builtin.copy_, run_underlying hu, Builtin.lenOf, Builtin.firstCells, sizeOf, typeInfo, hq, storeCells]
      | some ad =>
        have hl := run_loadCells_list (P := P) w ad [] (fun j v hj => by simp at hj)
        simp at hl
        cases dp <;> simp [Builtin.copy_, run_underlying hu, Builtin.lenOf, Builtin.firstCells, sizeOf, typeInfo, hq, hi, hz, hl, storeCells]
    · obtain ⟨rfl, ad, rfl, hsrc⟩ := hpos (by omega)
      have hl := run_loadCells_list (P := P) w ad cs hsrc
      have hst := run_storeCells_at P g off t cs 0 cur w hg (by simpa using hfit) h1
      simp [Builtin.copy_, run_underlying hu, Builtin.lenOf, Builtin.firstCells, sizeOf, typeInfo, hq, hi, ← hn, hl, hst]

/-- .. as one step of a region that draws its order. -/
theorem step_copy_size {P : Program} {ops : Array Oper} {o : Oper} {a : Act} {w : World} {K : Act → World → Prop} {Q : Exit → Act → World → Prop} {E : Prop} (hgd : o.guard = none) (d s : Operand) (dT sT : TypeId)
    (ho : o.op = .call { callee := .builtin .copy, args := #[d, s], argTypes := #[dT, sT] }) (elem : TypeId) (size : Nat) (hu : P.underlying dT = some (.slice elem)) (hsz : (P.info? elem).map (·.size) = some size)
    (dp sp : Option Addr) (dLen dCap sLen sCap : Nat) (hd : a.eval d = .slice dp dLen dCap) (hs : a.eval s = .slice sp sLen sCap)
    (g off : Nat) (cur : Array Value) (t : TypeId) (hg : w.heap[g]? = some (.cells cur t (0, 0))) (cs : List Value) (hn : cs.length = Nat.min sLen dLen * size)
    (hpos : 0 < cs.length → dp = some ⟨g, off, none⟩ ∧ ∃ ad, sp = some ad ∧ ∀ j v, cs[j]? = some v → w.cell? (ad.add j) = some v)
    (hfit : off + cs.length ≤ cur.size) (h1 : ∀ v ∈ cs, v.oneCell' = true) (Φ : World → Prop) (hΦ : Φ (w.setRow g (cur.toList.take off ++ cs ++ cur.toList.drop (off + cs.length)).toArray))
    (h : ∀ w', Φ w' → K (a.put o.dst (goInt (Nat.min sLen dLen))) w') :
    if Region.wanted o (yielded ops a.tmps) = true then Oper.wp P o a w K Q else E := by
  have hw : Region.wanted o (yielded ops a.tmps) = true := by simp [Region.wanted, hgd]
  rw [if_pos hw]
  have hrun := run_copy_size (P := P) w dT sT o.type elem size dp sp dLen dCap sLen sCap g off cur t cs hu hsz hg hn hpos hfit h1
  unfold Oper.wp
  simp only [execOp, ho, resolve, invoke, builtin, Sem.run_bind, Sem.run_pure, Result.andThen_ok, List.map_toArray, List.map_cons, List.map_nil, hd, hs, hrun]
  exact h _ hΦ

theorem wrap_small (k : Nat) (h : k ≤ 100000) : IntKind.i64.wrap ((k : Int) + 1) = (k : Int) + 1 := by
  rw [IntWalk.i64_left]
  exact IntWalk.wrap64_in _ (by omega)

/-- Hold, as far as the map is there: what is known of the world at the look-up. -/
structure Held1 (w W : World) (B G D count m : Nat) (dr : Nat → Bool) (sd : Ent → Value) (wt : Nat → List Ent) (hv : Nat → Value) (N : Int) (kn M : Nat) (dv : Value) : Prop where
  st : Stays B [45, 47] w W
  nb : Blk W w.heap.size #[.int .u64 N] 29
  gg : Blk W G #[.int .u64 4, .slice (some ⟨kn, 0, none⟩) count count, .map (some M), dv] 45
  dr : DropV W B D count dr dv
  mB : B ≤ M
  map : MapIs W M m count wt hv
  rows : ∀ r, r < count → W.ownsRow B 47 2 (hv r) (wt r).length (cells2 fn sd (wt r))

theorem held1_old {w : World} {B G D count m : Nat} {dr : Nat → Bool} {sd : Ent → Value} {wt : Nat → List Ent} {hv : Nat → Value} {N : Int} {kn M : Nat} {dv : Value} (h : Gt w B G D count m dr sd wt hv) (hB : B ≤ w.heap.size)
    (hG : Blk w G #[.int .u64 4, .slice (some ⟨kn, 0, none⟩) count count, .map (some M), dv] 45) (hd : DropV w B D count dr dv) (hMB : B ≤ M) (hM : MapIs w M m count wt hv) :
    Held1 w (w.alloc (.cells #[.int .u64 N] 29)) B G D count m dr sd wt hv N kn M dv := by
  obtain ⟨es, ck, hes⟩ := hM.isMap
  refine ⟨(Stays.refl _ _ _).alloc hB _, Blk.new w _ _, hG.alloc _, ?_, hMB, hM.kept (Below.heap_alloc w _ M (Array.getElem?_eq_some_iff.1 hes).1), fun r hr => (h.rows r hr).alloc _⟩
  rcases hd with hd | ⟨gd, e, h1, h2, h3⟩
  · exact .inl hd
  · exact .inr ⟨gd, e, h1, h2, h3.alloc _⟩

/-- Behind the append: the row's first (n + 1) * 2 cells are L. -/
structure Held2 (w W : World) (B G D count m r : Nat) (dr : Nat → Bool) (sd : Ent → Value) (wt : Nat → List Ent) (hv : Nat → Value) (N : Int) (kn M : Nat) (dv : Value) (Wb g cap n : Nat) (L : List Value) : Prop where
  st : Stays B [45, 47] w W
  nb : Blk W w.heap.size #[.int .u64 N] 29
  wb : Blk W Wb #[.slice (some ⟨g, 0, none⟩) (n + 1) cap] 41
  gg : Blk W G #[.int .u64 4, .slice (some ⟨kn, 0, none⟩) count count, .map (some M), dv] 45
  dr : DropV W B D count dr dv
  mB : B ≤ M
  map : MapIs W M m count wt hv
  rows : ∀ r', r' < count → r' ≠ r → W.ownsRow B 47 2 (hv r') (wt r').length (cells2 fn sd (wt r')) ∧ (hv r').ownBlock ≠ some g
  own : W.ownsRow B 47 2 (.slice (some ⟨g, 0, none⟩) (n + 1) cap) (n + 1) L
  size : B ≤ W.heap.size

/-- The block of an owned row of the type 47 is no block of another type. -/
theorem own_off {W : World} {B n : Nat} {v : Value} {xs : List Value} {e : TypeId} {sz : Nat} (ho : W.ownsRow B e sz v n xs) {b : Nat} {cs : Array Value} {t : TypeId} (hb : Blk W b cs t) (ht : t ≠ e) : some b ≠ v.ownBlock := by
  intro hp
  rcases ho.2 with ⟨rfl, _⟩ | ⟨g, cap, cur, rfl, _, hg, _⟩
  · simp [Value.ownBlock] at hp
  · simp [Value.ownBlock] at hp
    subst hp
    unfold Blk at hb
    rw [hb] at hg
    simp at hg
    exact ht hg.2

theorem own_row {W : World} {B n : Nat} {v : Value} {xs : List Value} {e : TypeId} {sz : Nat} (ho : W.ownsRow B e sz v n xs) : ∀ k, v.ownBlock = some k → B ≤ k ∧ ∃ cs t, Blk W k cs t ∧ t ∈ [45, e] := by
  intro k hk
  rcases ho.2 with ⟨rfl, _⟩ | ⟨g, cap, cur, rfl, hB, hg, _⟩
  · simp [Value.ownBlock] at hk
  · simp [Value.ownBlock] at hk
    subst hk
    exact ⟨hB, cur, e, hg, by simp⟩

theorem held2_mk {w W w3 : World} {B G D count m r : Nat} {dr : Nat → Bool} {sd : Ent → Value} {wt : Nat → List Ent} {hv : Nat → Value} {N : Int} {kn M : Nat} {dv : Value} {ao : Option Addr} {cp g cap : Nat} {X : Array Value} (h : Held1 w W B G D count m dr sd wt hv N kn M dv) (hr : r < count) (hBW : B ≤ W.heap.size)
    (hap : ∀ r r', r < count → r' < count → r ≠ r' → ∀ g, (hv r).ownBlock = some g → (hv r').ownBlock ≠ some g) (hvr : hv r = .slice ao (wt r).length cp)
    (hown3 : w3.ownsRow B 47 2 (.slice (some ⟨g, 0, none⟩) ((wt r).length + 1) cap) ((wt r).length + 1) (cells2 fn sd (wt r) ++ [.int .u64 0, .nilFunc]))
    (hgrow : ((W.alloc (.cells #[.slice ao (wt r).length cp] 41)).alloc (.cells X 47)).grownBy w3 (Value.slice ao (wt r).length cp).ownBlock) (hat : (Value.slice ao (wt r).length cp).ownBlock = some g ∨ g = W.heap.size + 2) :
    Blk w3 W.heap.size #[.slice ao (wt r).length cp] 41 ∧
    Held2 w (w3.setCell ⟨W.heap.size, 0, none⟩ (.slice (some ⟨g, 0, none⟩) ((wt r).length + 1) cap)) B G D count m r dr sd wt hv N kn M dv W.heap.size g cap (wt r).length (cells2 fn sd (wt r) ++ [.int .u64 0, .nilFunc]) := by
  have hrow := h.rows r hr
  rw [hvr] at hrow
  have ho2 := (hrow.alloc (.cells #[.slice ao (wt r).length cp] 41)).alloc (.cells X 47)
  have hwb : Blk w3 W.heap.size #[.slice ao (wt r).length cp] 41 := ((Blk.new W _ 41).alloc _).grown hgrow (own_off ho2 ((Blk.new W _ 41).alloc _) (by decide))
  have hkeep : ∀ b cs t, Blk W b cs t → t ≠ 47 → Blk w3 b cs t := fun b cs t hb ht => ((hb.alloc _).alloc _).grown hgrow (own_off ho2 ((hb.alloc _).alloc _) ht)
  have hkeep' : ∀ b cs t, Blk W b cs t → t ≠ 47 → Blk (w3.setCell ⟨W.heap.size, 0, none⟩ (.slice (some ⟨g, 0, none⟩) ((wt r).length + 1) cap)) b cs t := fun b cs t hb ht => (hkeep b cs t hb ht).setOther (fun e => by have := hb.lt; omega) 0 _
  have h3s : W.heap.size + 2 ≤ w3.heap.size := by have := hgrow.size; simpa using this
  have hst3 : Stays B [45, 47] w w3 := ((h.st.alloc hBW _).alloc (by simp; omega) _).grown hgrow (by simp; omega) (own_row ho2)
  obtain ⟨es, ck, hes⟩ := h.map.isMap
  have hMW : M < W.heap.size := (Array.getElem?_eq_some_iff.1 hes).1
  have hMo : some M ≠ (Value.slice ao (wt r).length cp).ownBlock := by
    intro hp
    rcases hrow.2 with ⟨e, _⟩ | ⟨g', cap', cur, e, _, hg', _⟩
    · rw [e] at hp; simp [Value.ownBlock] at hp
    · rw [e] at hp
      simp [Value.ownBlock] at hp
      subst hp
      rw [hes] at hg'
      simp at hg'
  have hMk : (w3.setCell ⟨W.heap.size, 0, none⟩ (.slice (some ⟨g, 0, none⟩) ((wt r).length + 1) cap)).heap[M]? = W.heap[M]? := by
    rw [Below.heap_setCell w3 ⟨W.heap.size, 0, none⟩ _ M (by show M ≠ W.heap.size; omega), hgrow.block M (by simp; omega) hMo, Below.heap_alloc _ _ M (by simp; omega), Below.heap_alloc _ _ M hMW]
  refine ⟨hwb, ⟨?_, hkeep' _ _ _ h.nb (by decide), ?_, hkeep' _ _ _ h.gg (by decide), ?_, h.mB, h.map.kept hMk, fun r' hr' hne => ?_, ?_, by simp [World.setCell]; omega⟩⟩
  · refine ⟨hst3.below.setCell (by exact hBW) _, fun b cs t hb ht => ?_⟩
    exact (hst3.keep b cs t hb ht).setOther (fun e => by have := hb.lt; have := h.st.below.size; omega) 0 _
  · exact hwb.set 0 _
  · rcases h.dr with hd | ⟨gd, e, h1, h2, h3⟩
    · exact .inl hd
    · exact .inr ⟨gd, e, h1, h2, hkeep' _ _ _ h3 (by decide)⟩
  · have hr1 := h.rows r' hr'
    have hne1 : (hv r').ownBlock = none ∨ (hv r').ownBlock ≠ (Value.slice ao (wt r).length cp).ownBlock := by
      cases hq : (hv r').ownBlock with
      | none => exact .inl rfl
      | some g' =>
        right
        intro e
        exact hap r r' hr hr' (fun e => hne e.symm) g' (by rw [hvr]; exact e.symm) hq
    have hk := ((hr1.alloc (.cells #[.slice ao (wt r).length cp] 41)).alloc (.cells X 47)).kept hgrow hne1
    refine ⟨own47 hk (fun b cs hb => hb.setOther (hb.ne hwb (by decide)) 0 _), fun e => ?_⟩
    rcases hat with hat | hat
    · exact hap r r' hr hr' (fun e => hne e.symm) g (by rw [hvr]; exact hat) e
    · have := (hr1.lt g e).2
      omega
  · exact own47 hown3 (fun b cs hb => hb.setOther (hb.ne hwb (by decide)) 0 _)

/-- The row laid anew, the same number of cells. -/
theorem Held2.reset {w W : World} {B G D count m r : Nat} {dr : Nat → Bool} {sd : Ent → Value} {wt : Nat → List Ent} {hv : Nat → Value} {N : Int} {kn M : Nat} {dv : Value} {Wb g cap n : Nat} {L L' : List Value} {cur : Array Value}
    (h : Held2 w W B G D count m r dr sd wt hv N kn M dv Wb g cap n L) (hb : Blk W g cur 47) (hs : cur.size = cap * 2) (cs' : List Value) (hs' : cs'.length = cap * 2) (hL : cs'.take ((n + 1) * 2) = L') :
    Held2 w (W.setRow g cs'.toArray) B G D count m r dr sd wt hv N kn M dv Wb g cap n L' := by
  have hg : B ≤ g ∧ n + 1 ≤ cap ∧ cap ≤ maxLen := by
    rcases h.own.2 with ⟨e, _⟩ | ⟨g', cap', cur', e, h1, h2, h3, h4, _⟩
    · simp at e
    · simp at e; obtain ⟨rfl, rfl⟩ := e; exact ⟨h1, h3, h4⟩
  have hk : ∀ b cs t, Blk W b cs t → b ≠ g → Blk (W.setRow g cs'.toArray) b cs t := fun b cs t hx hne => (setRow_other W g b cs'.toArray hne).trans hx
  have hk' : ∀ b cs t, Blk W b cs t → t ≠ 47 → Blk (W.setRow g cs'.toArray) b cs t := fun b cs t hx ht => hk b cs t hx (hx.ne hb ht)
  obtain ⟨es, ck, hes⟩ := h.map.isMap
  have hMg : M ≠ g := fun e => by subst e; unfold Blk at hb; rw [hes] at hb; simp at hb
  refine ⟨⟨⟨h.st.below.os, h.st.below.tape, h.st.below.output, by simp [World.setRow]; exact h.st.below.size, fun k hk => (setRow_other W g k _ (by omega)).trans (h.st.below.block k hk)⟩, fun b cs t hx ht => hk' _ _ _ (h.st.keep b cs t hx ht) (fun e => ht (by simp [e]))⟩,
    hk' _ _ _ h.nb (by decide), hk' _ _ _ h.wb (by decide), hk' _ _ _ h.gg (by decide), ?_, h.mB, h.map.kept (setRow_other W g M _ hMg), fun r' hr' hne => ⟨?_, (h.rows r' hr' hne).2⟩, ?_, by simp [World.setRow]; exact h.size⟩
  · rcases h.dr with hd | ⟨gd, e, h1, h2, h3⟩
    · exact .inl hd
    · exact .inr ⟨gd, e, h1, h2, hk' _ _ _ h3 (by decide)⟩
  · obtain ⟨ho, hne'⟩ := h.rows r' hr' hne
    refine ⟨ho.1, ?_⟩
    rcases ho.2 with h' | ⟨g', cap', cur', hv', hb', hg', rest⟩
    · exact .inl h'
    · refine .inr ⟨g', cap', cur', hv', hb', ?_, rest⟩
      rw [setRow_other W g g' _ (fun e => hne' (by rw [hv', e]; rfl))]
      exact hg'
  · refine ⟨by rw [← hL]; simp; omega, .inr ⟨g, cap, cs'.toArray, rfl, hg.1, setRow_heap W g cur _ 47 _ hb, hg.2.1, hg.2.2, by simpa using hs', by simpa using hL⟩⟩

/-- A cell of the row written. -/
theorem Held2.store {w W : World} {B G D count m r : Nat} {dr : Nat → Bool} {sd : Ent → Value} {wt : Nat → List Ent} {hv : Nat → Value} {N : Int} {kn M : Nat} {dv : Value} {Wb g cap n : Nat} {L : List Value}
    (h : Held2 w W B G D count m r dr sd wt hv N kn M dv Wb g cap n L) (j : Nat) (u : Value) :
    Held2 w (W.setCell ⟨g, j, none⟩ u) B G D count m r dr sd wt hv N kn M dv Wb g cap n (L.set j u) := by
  obtain ⟨hg, cur, hb⟩ : B ≤ g ∧ ∃ cur, Blk W g cur 47 := by
    rcases h.own.2 with ⟨e, _⟩ | ⟨g', cap', cur', e, h1, h2, h3, h4, _⟩
    · simp at e
    · simp at e; obtain ⟨rfl, rfl⟩ := e; exact ⟨h1, cur', h2⟩
  have hk' : ∀ b cs t, Blk W b cs t → t ≠ 47 → Blk (W.setCell ⟨g, j, none⟩ u) b cs t := fun b cs t hx ht => hx.setOther (hx.ne hb ht) j u
  obtain ⟨es, ck, hes⟩ := h.map.isMap
  have hMg : M ≠ g := fun e => by subst e; unfold Blk at hb; rw [hes] at hb; simp at hb
  refine ⟨h.st.setCell hb (by simp) hg j u, hk' _ _ _ h.nb (by decide), hk' _ _ _ h.wb (by decide), hk' _ _ _ h.gg (by decide), ?_, h.mB, h.map.kept (Below.heap_setCell W ⟨g, j, none⟩ u M hMg), fun r' hr' hne => ⟨?_, (h.rows r' hr' hne).2⟩, (h.own.stored j u).1, by simp [World.setCell]; exact h.size⟩
  · rcases h.dr with hd | ⟨gd, e, h1, h2, h3⟩
    · exact .inl hd
    · exact .inr ⟨gd, e, h1, h2, hk' _ _ _ h3 (by decide)⟩
  · obtain ⟨ho, hne'⟩ := h.rows r' hr' hne
    exact ho.kept (h.own.stored j u).2 (.inr hne')

theorem hold_cells (f g : Ent → Value) (s : List Ent) (x : Ent) (z1 z2 : Value) {c : Nat} (hc : c ≤ s.length) :
    ((((cells2 f g s ++ [z1, z2]).take ((c + 1) * 2) ++ cells2 f g (s.drop c)).set (c * 2) (f x)).set (c * 2 + 1) (g x)) = cells2 f g (s.take c ++ x :: s.drop c) := by
  have h1 : ∃ a b, (cells2 f g s ++ [z1, z2]).take ((c + 1) * 2) = cells2 f g (s.take c) ++ [a, b] := by
    by_cases h : c < s.length
    · refine ⟨f (s[c]'h), g (s[c]'h), ?_⟩
      rw [List.take_append_of_le_length (by rw [cells2_length]; omega), cells2_take, List.take_succ_eq_append_getElem h, cells2_append, cells2_cons]
      rfl
    · have e : c = s.length := by omega
      subst e
      refine ⟨z1, z2, ?_⟩
      rw [List.take_of_length_le (by simp [cells2_length]; omega), List.take_length]
  obtain ⟨a, b, h1⟩ := h1
  have hl : (cells2 f g (s.take c)).length = c * 2 := by rw [cells2_length]; simp; omega
  rw [h1, cells2_append, cells2_cons]
  generalize cells2 f g (s.take c) = A at hl
  generalize cells2 f g (s.drop c) = Z
  rw [List.append_assoc, List.set_append_right _ _ (by omega), List.set_append_right _ _ (by omega)]
  simp [hl]

/-- The Gates behind Hold. -/
theorem gt_held {w W w' : World} {B G D count m r : Nat} {dr : Nat → Bool} {sd : Ent → Value} {wt : Nat → List Ent} {hv : Nat → Value} {N : Int} {kn M : Nat} {dv : Value} {Wb g cap n : Nat} {x : Ent} (h : Held2 w W B G D count m r dr sd wt hv N kn M dv Wb g cap n (cells2 fn sd (ins (wt r) x))) (h0 : Gt w B G D count m dr sd wt hv) (hn : n = (wt r).length) (hr : r < count)
    (hm : MapIs w' M (m + 1) count (upd wt r (ins (wt r) x)) (upd hv r (.slice (some ⟨g, 0, none⟩) (n + 1) cap))) (hg : W.grownBy w' (some M)) :
    Gt w' B G D count (m + 1) dr sd (upd wt r (ins (wt r) x)) (upd hv r (.slice (some ⟨g, 0, none⟩) (n + 1) cap)) ∧ Stays B [45, 47] w w' := by
  obtain ⟨es, ck, hes⟩ := h.map.isMap
  have hk : ∀ b cs t, Blk W b cs t → Blk w' b cs t := fun b cs t hx => hx.grown hg (fun e => by cases e; unfold Blk at hx; rw [hes] at hx; simp at hx)
  have hl : (ins (wt r) x).length = n + 1 := by rw [length_ins, hn]
  refine ⟨⟨⟨kn, _, dv, hk _ _ _ h.gg, ?_, .inr ⟨M, rfl, h.mB, hm⟩⟩, fun r' hr' => ?_, fun a b ha hb hne g' hga => ?_, fun r' hr' => ?_, h0.base⟩, h.st.grownMap hg h.size h.mB hes⟩
  · rcases h.dr with hd | ⟨gd, e, h1, h2, h3⟩
    · exact .inl hd
    · exact .inr ⟨gd, e, h1, h2, hk _ _ _ h3⟩
  · by_cases e : r' = r
    · subst e; rw [upd_same, upd_same, hl]; exact own47 h.own (fun b cs hb => hk b cs 47 hb)
    · rw [upd_other _ _ e, upd_other _ _ e]; exact own47 (h.rows r' hr' e).1 (fun b cs hb => hk b cs 47 hb)
  · by_cases ea : a = r
    · subst ea
      rw [upd_same] at hga
      simp [Value.ownBlock] at hga
      subst hga
      rw [upd_other _ _ (fun e => hne e.symm)]
      exact (h.rows b hb (fun e => hne e.symm)).2
    · rw [upd_other _ _ ea] at hga
      by_cases eb : b = r
      · subst eb
        rw [upd_same]
        intro e
        simp [Value.ownBlock] at e
        subst e
        exact (h.rows a ha ea).2 hga
      · rw [upd_other _ _ eb]; exact h0.apart a b ha hb hne g' hga
  · by_cases e : r' = r
    · subst e; rw [upd_same, hl, hn]; have := h0.len r' hr; omega
    · rw [upd_other _ _ e]; have := h0.len r' hr'; omega

/-- 'm[r] = v' as one step of a region that draws its order. -/
theorem step_update_is {ops : Array Oper} {o : Oper} {a : Act} {w : World} {K : Act → World → Prop} {Q : Exit → Act → World → Prop} {E : Prop} (hgd : o.guard = none) (mo xo vo : Operand) (ho : o.op = .mapUpdate 43 mo xo vo)
    {M m count r : Nat} {wt : Nat → List Ent} {hv : Nat → Value} (hmo : a.eval mo = .map (some M)) (hxo : a.eval xo = .int .i64 r) (v : Value) (hvo : a.eval vo = v)
    (h : MapIs w M m count wt hv) (hr : r < count) (hc : count ≤ 8) (hm : m ≤ 1024) (l : List Ent) (hl : l.isEmpty = false)
    (hK : ∀ w', MapIs w' M (m + 1) count (upd wt r l) (upd hv r v) → w.grownBy w' (some M) → K (a.put o.dst undef) w') :
    if Region.wanted o (yielded ops a.tmps) = true then Oper.wp Yba.prog o a w K Q else E := by
  have hw : Region.wanted o (yielded ops a.tmps) = true := by simp [Region.wanted, hgd]
  rw [if_pos hw]
  obtain ⟨w', hrun, r1, r2⟩ := h.put hr hc hm l hl v
  unfold Oper.wp
  simp [execOp, ho, hmo, hxo, hvo, hrun, Result.andThen]
  exact hK w' r1 r2

theorem ins_ne (s : List Ent) (x : Ent) : (ins s x).isEmpty = false := by simp [ins]

theorem blk_map {W w' : World} {M : Nat} {es : Array MapEntry} {ck : Nat} (hes : W.heap[M]? = some (.map es ck)) (hg : W.grownBy w' (some M)) {b : Nat} {cs : Array Value} {t : TypeId} (hx : Blk W b cs t) : Blk w' b cs t :=
  hx.grown hg (fun e => by cases e; unfold Blk at hx; rw [hes] at hx; simp at hx)

theorem size47 : (Yba.prog.info? 47).map (·.size) = some 2 := by kernel_rfl

def msOf (s : List Ent) (k : Nat) : Int := ((s[k]?).map (·.n)).getD 0
theorem msOf_at (s : List Ent) {k : Nat} (h : k < s.length) : msOf s k = (s[k]'h).n := by simp [msOf, h]

set_option maxHeartbeats 800000 in
theorem hold_no (w : World) (B G D count m r : Nat) (dr : Nat → Bool) (sd : Ent → Value) (wt : Nat → List Ent) (hv : Nat → Value) (h : Gt w B G D count m dr sd wt hv) (hr : r < count) (hc : count ≤ 8) (hB : B ≤ w.heap.size) (hdr : dr r = true) (N : Int) (f : Value) :
    Calls Yba.prog 10 #[.pointer (some ⟨G, 0, none⟩), .int .i64 r, .int .u64 N, f] w fun e w' => e = .returned (.tuple #[]) ∧ Gt w' B G D count m dr sd wt hv ∧ Stays B [45, 47] w w' := by
  have h1 : Gt (w.alloc (.cells #[.int .u64 N] 29)) B G D count m dr sd wt hv := h.keep ((Gk.refl D w).alloc _)
  have HH := (show Hid _ from h1)
  clear h h1
  go_enter Yba.func10, Yba.ntmps10
  go_wp2_with fail
  refine (isDropped_any _ B G D count m r dr sd wt hv HH.out hr hc).mono ?_
  rintro e w1 ⟨rfl, rfl⟩
  rw [hdr]
  go_wp2
  refine bodyPost_ret (results_none rfl _ _ _) rfl ?_
  exact ⟨rfl, HH.out, (Stays.refl _ _ _).alloc hB _⟩

set_option maxHeartbeats 800000 in
theorem hold_old (w : World) (B G D count m r : Nat) (dr : Nat → Bool) (sd : Ent → Value) (wt : Nat → List Ent) (hv : Nat → Value) (h : Gt w B G D count m dr sd wt hv) (hr : r < count) (hc : count ≤ 8) (hB : B ≤ w.heap.size) (hdr : dr r = false) (x : Ent)
    (kn M : Nat) (dv : Value) (hG : Blk w G #[.int .u64 4, .slice (some ⟨kn, 0, none⟩) count count, .map (some M), dv] 45) (hd : DropV w B D count dr dv) (hMB : B ≤ M) (hM : MapIs w M m count wt hv) (hm : m ≤ 512) (hsrt : Srt (wt r)) (hsd : ∀ y, (sd y).oneCell' = true) (Lb q : Nat) (hfv : sd x = .func (.func 11) #[] #[.pointer (some ⟨Lb, 0, none⟩), .pointer (some ⟨q, 0, none⟩)]) :
    Calls Yba.prog 10 #[.pointer (some ⟨G, 0, none⟩), .int .i64 r, .int .u64 x.n, .func (.func 11) #[] #[.pointer (some ⟨Lb, 0, none⟩), .pointer (some ⟨q, 0, none⟩)]] w fun e w' => e = .returned (.tuple #[]) ∧ (∃ v, Gt w' B G D count (m + 1) dr sd (upd wt r (ins (wt r) x)) (upd hv r v)) ∧ Stays B [45, 47] w w' := by
  have q2 := nilEq43
  have h1 : Gt (w.alloc (.cells #[.int .u64 x.n] 29)) B G D count m dr sd wt hv := h.keep ((Gk.refl D w).alloc _)
  have HH := (show Hid _ from h1)
  have H1 := (show Hid _ from held1_old (N := x.n) h hB hG hd hMB hM)
  have HX := (show Hid _ from h)
  have hGw := hG.lt
  have c2 : w.cell? ⟨G, 2, none⟩ = some (.map (some M)) := hG.cell 2
  obtain ⟨ao, cp, hvr⟩ : ∃ ao cp, hv r = .slice ao (wt r).length cp := by
    rcases (h.rows r hr).2 with ⟨e, e0⟩ | ⟨g, cap, cur, e, _⟩
    · exact ⟨_, _, by rw [e, e0]⟩
    · exact ⟨_, _, e⟩
  have HV := (show Hid _ from hvr)
  have HFV := (show Hid _ from hfv)
  clear hfv
  clear h h1 hG hd hM hvr
  go_enter Yba.func10, Yba.ntmps10
  go_wp2_with fail
  refine (isDropped_any _ B G D count m r dr sd wt hv HH.out hr hc).mono ?_
  rintro e w1 ⟨rfl, rfl⟩
  rw [hdr]
  clear HH
  go_wp2_with (at_lookup; refine wpList_lookup_is rfl _ _ rfl rfl rfl (.slice ao (wt r).length cp) (by rw [← HV.out]; exact H1.out.map.look hr hc) (fun W => Held1 w W B G D count m dr sd wt hv x.n kn M dv) H1.out ?_)
  intro W hW
  clear H1
  go_wp2_with fail
  have hrow := hW.rows r hr
  rw [HV.out] at hrow
  obtain ⟨g0, hg0⟩ : ∃ g0, 0 < (wt r).length → ao = some ⟨g0, 0, none⟩ := by
    rcases hrow.2 with ⟨e, e0⟩ | ⟨g, cap, cur, e, _⟩
    · exact ⟨0, fun h => by omega⟩
    · simp only [Value.slice.injEq] at e
      exact ⟨g, fun _ => e.1⟩
  have hms : ∀ k, k < (wt r).length → (W.alloc (.cells #[.slice ao (wt r).length cp] 41)).cell? ⟨g0, k * 2, none⟩ = some (.int .u64 (msOf (wt r) k)) := by
    intro k hk
    have hrow' := hrow.alloc (.cells #[.slice ao (wt r).length cp] 41)
    rw [hg0 (by omega)] at hrow'
    rw [hg0 (by omega), hrow'.cellAt (k * 2) (by omega), cells2_fst fn sd (wt r) k hk, msOf_at _ hk]
    rfl
  have hle : (wt r).length ≤ m := HX.out.len r hr
  refine (search_any ao (wt r).length cp W.heap.size w.heap.size g0 (cut (wt r) x.n) x.n (msOf (wt r)) _ ?s1 hg0 ?s2 (by omega) hms (cut_le _ _) (fun k hk => by rw [msOf_at _ hk]; exact cut_spec hsrt x.n k hk)).mono ?_
  case s1 => exact (Blk.new W _ 41).cell 0
  case s2 => exact (hW.nb.alloc _).cell 0
  rintro e w2 ⟨rfl, nd, rfl⟩
  clear hms
  obtain ⟨c, hcut⟩ : ∃ c, c = cut (wt r) x.n := ⟨_, rfl⟩
  rw [← hcut]
  have hcle : c ≤ (wt r).length := by rw [hcut]; exact cut_le _ _
  have HC := (show Hid _ from hcut)
  have HW := (show Hid _ from hW)
  have HR : Hid (W.ownsRow B 47 2 (.slice ao (wt r).length cp) (wt r).length (cells2 fn sd (wt r))) := hrow
  clear hcut hW hrow
  obtain ⟨i0, hi, hz0, hz1, hz2⟩ := info_parts info47
  have hBW : B ≤ W.heap.size := Nat.le_trans hB HW.out.st.below.size
  go_wp2_with (at_builtin; go_must (refine wpList_append_lies _ rfl _ _ 41 rfl B 47 i0 (.agg #[.int .u64 0, .nilFunc]) 2 16 Yba.underlying41 hi hz0 hz1 hz2 rfl (Nat.succ_pos 1) (.slice ao (wt r).length cp) (wt r).length (cells2 fn sd (wt r)) rfl ?hown ⟨W.heap.size + 1, 0, none⟩ 1 1 [.int .u64 0, .nilFunc] rfl rfl ?hnews ?hone Nat.one_pos ?h63 ?hby ?hbase (W.heap.size + 2) ?hH ?_))
  case hown => exact (HR.out.alloc _).alloc _
  case hnews =>
    intro j u hj
    have hb : Blk ((W.alloc (.cells #[.slice ao (wt r).length cp] 41)).alloc (.cells #[.int .u64 0, .nilFunc] 47)) (W.heap.size + 1) #[.int .u64 0, .nilFunc] 47 := by
      have := Blk.new (W.alloc (.cells #[.slice ao (wt r).length cp] 41)) #[.int .u64 0, .nilFunc] 47
      simpa using this
    exact World.news_of_block hb j u hj
  case hone => intro u hu; simp at hu; rcases hu with rfl | rfl <;> rfl
  case h63 => unfold maxLen; omega
  case hby => omega
  case hbase => simp; omega
  case hH => simp
  intro g cap w3 hown3 hgrow hat hlt
  have hgrow' : ((W.alloc (.cells #[.slice ao (wt r).length cp] 41)).alloc (.cells #[.int .u64 0, .nilFunc] 47)).grownBy w3 (Value.slice ao (wt r).length cp).ownBlock := ⟨hgrow.os, hgrow.tape, hgrow.output, hgrow.size, hgrow.block⟩
  obtain ⟨hwb, hH2⟩ := held2_mk HW.out hr hBW HX.out.apart HV.out hown3 hgrow' hat
  have hwc := hwb.cell 0
  have hwf := hwb.frozen 0
  have H2 := (show Hid _ from hH2)
  clear hown3 hgrow hgrow' hat hlt hwb hH2 HW HR
  go_wp2
  refine wp_forget (fun W' => Held2 w W' B G D count m r dr sd wt hv x.n kn M dv W.heap.size g cap (wt r).length (cells2 fn sd (wt r) ++ [.int .u64 0, .nilFunc])) H2.out ?_
  intro W4 h4
  have c8 : W4.cell? ⟨W.heap.size, 0, none⟩ = some (.slice (some ⟨g, 0, none⟩) ((wt r).length + 1) cap) := h4.wb.cell 0
  obtain ⟨n, hnn⟩ : ∃ n, n = (wt r).length := ⟨_, rfl⟩
  have HN := (show Hid _ from hnn)
  rw [← hnn] at c8 hcle hle ⊢
  have hcap : n + 1 ≤ cap ∧ cap ≤ maxLen := by
    rcases h4.own.2 with ⟨e, _⟩ | ⟨g', cap', cur, e, _, _, h1, h2, _⟩
    · simp at e
    · simp at e; omega
  unfold maxLen at hcap
  have H4 := (show Hid _ from h4)
  clear hnn h4
  have b1 : (0 : Int) ≤ (c : Int) := by omega
  have b2 : (c : Int) ≤ (n : Int) + 1 := by omega
  have b3 : (c : Int) + 1 ≤ (n : Int) + 1 := by omega
  have b4 : (n : Int) + 1 ≤ (cap : Int) := by omega
  have b5 : (c : Int) + 1 ≤ (cap : Int) := by omega
  have b6 : (c : Int) ≤ (cap : Int) := by omega
  have b7 : (0 : Int) ≤ (c : Int) + 1 := by omega
  have bw := wrap_small c (by omega)
  obtain ⟨cur, hcur, hcs, htk⟩ : ∃ cur, Blk W4 g cur 47 ∧ cur.size = cap * 2 ∧ cur.toList.take ((n + 1) * 2) = cells2 fn sd (wt r) ++ [.int .u64 0, .nilFunc] := by
    have ho := H4.out.own
    rw [← HN.out] at ho
    rcases ho.2 with ⟨e, _⟩ | ⟨g', cap', cur, e, _, h1, _, _, h2, h3⟩
    · simp at e
    · simp at e; obtain ⟨rfl, rfl⟩ := e; exact ⟨cur, h1, h2, h3⟩
  obtain ⟨cs, hcsd⟩ : ∃ cs, cs = cells2 fn sd ((wt r).drop c) := ⟨_, rfl⟩
  have hcl : cs.length = (n - c) * 2 := by rw [hcsd, cells2_length, List.length_drop, ← HN.out]
  have hmin : Nat.min (n + 1 - c) (n - c) = n - c := Nat.min_eq_right (by omega)
  have K1 : Hid (cs.length = Nat.min (n + 1 - c) (n - c) * 2) := by show _ = _; rw [hmin, hcl]
  have K2 : Hid (0 < cs.length → (if cap = c + 1 then some ⟨g, 0, none⟩ else some ⟨g, (c + 1) * 2, none⟩ : Option Addr) = some ⟨g, (c + 1) * 2, none⟩ ∧ ∃ ad, (if cap = c then some ⟨g, 0, none⟩ else some ⟨g, c * 2, none⟩ : Option Addr) = some ad ∧ ∀ j v, cs[j]? = some v → W4.drew.cell? (ad.add j) = some v) := by
    intro hp
    refine ⟨if_neg (by omega), ⟨g, c * 2, none⟩, if_neg (by omega), fun j v hj => ?_⟩
    have hjl : j < cs.length := (List.getElem?_eq_some_iff.1 hj).1
    have hadd : (⟨g, c * 2, none⟩ : Addr).add j = ⟨g, c * 2 + j, none⟩ := by unfold Addr.add; split <;> simp_all
    have ho := H4.out.own
    rw [← HN.out] at ho
    rw [hadd]
    show W4.cell? ⟨g, c * 2 + j, none⟩ = some v
    rw [ho.cellAt (c * 2 + j) (by omega), List.getElem?_append_left (by rw [cells2_length, ← HN.out]; omega)]
    rw [hcsd, ← cells2_drop, List.getElem?_drop] at hj
    exact hj
  have K3 : Hid ((c + 1) * 2 + cs.length ≤ cur.size) := by show _ ≤ _; rw [hcl, hcs]; omega
  have K4 : Hid (∀ v ∈ cs, v.oneCell' = true) := by
    intro v hv'
    rw [hcsd] at hv'
    unfold cells2 at hv'
    rw [List.mem_flatMap] at hv'
    obtain ⟨y, _, hy⟩ := hv'
    simp at hy
    rcases hy with rfl | rfl
    · rfl
    · exact hsd y
  have K5 : Hid (Held2 w (W4.drew.setRow g (cur.toList.take ((c + 1) * 2) ++ cs ++ cur.toList.drop ((c + 1) * 2 + cs.length)).toArray) B G D count m r dr sd wt hv x.n kn M dv W.heap.size g cap n ((cells2 fn sd (wt r) ++ [Value.int .u64 0, Value.nilFunc]).take ((c + 1) * 2) ++ cells2 fn sd ((wt r).drop c))) := by
    have h4' := H4.out
    rw [← HN.out] at h4'
    have h4d : Held2 w W4.drew B G D count m r dr sd wt hv x.n kn M dv W.heap.size g cap n (cells2 fn sd (wt r) ++ [.int .u64 0, .nilFunc]) := ⟨⟨h4'.st.below.drew, h4'.st.keep⟩, h4'.nb, h4'.wb, h4'.gg, h4'.dr, h4'.mB, h4'.map.kept rfl, h4'.rows, h4'.own, h4'.size⟩
    have hlen : cur.toList.length = cap * 2 := by simpa using hcs
    refine h4d.reset (cur := cur) hcur hcs _ (by simp only [List.length_append, List.length_take, List.length_drop, hlen, hcl]; omega) ?_
    have e1 : (cur.toList.take ((c + 1) * 2) ++ cs).length = (n + 1) * 2 := by simp only [List.length_append, List.length_take, hlen, hcl]; omega
    rw [← e1, List.take_left, ← hcsd, ← htk, List.take_take, Nat.min_eq_left (by omega)]
  have HCur : Hid (W4.drew.heap[g]? = some (.cells cur 47 (0, 0))) := hcur
  clear hcur htk hcsd hcl hcs
  go_region_held3 (fun w' => w'.cell? ⟨W.heap.size, 0, none⟩ = some (.slice (some ⟨g, 0, none⟩) (n + 1) cap)) (first | exact h5.wb.cell 0 | go_keep) ((refine step_copy_size (by rfl) (.tmp 39) (.tmp 42) 41 41 (by rfl) 47 2 Yba.underlying41 size47 (if cap = c + 1 then some ⟨g, 0, none⟩ else some ⟨g, (c + 1) * 2, none⟩) (if cap = c then some ⟨g, 0, none⟩ else some ⟨g, c * 2, none⟩) (n - c) (cap - (c + 1)) (n + 1 - c) (cap - c) (by rfl) (by rfl) g ((c + 1) * 2) cur 47 HCur.out cs K1.out K2.out K3.out K4.out (fun W' => Held2 w W' B G D count m r dr sd wt hv x.n kn M dv W.heap.size g cap n ((cells2 fn sd (wt r) ++ [Value.int .u64 0, Value.nilFunc]).take ((c + 1) * 2) ++ cells2 fn sd ((wt r).drop c))) K5.out ?_; intro W5 h5))
  have d8 : W5.cell? ⟨W.heap.size, 0, none⟩ = some (.slice (some ⟨g, 0, none⟩) (n + 1) cap) := h5.wb.cell 0
  have d9 : W5.cell? ⟨w.heap.size, 0, none⟩ = some (.int .u64 x.n) := h5.nb.cell 0
  obtain ⟨o1, ho1⟩ : ∃ o1, W5.cell? ⟨g, c * 2, none⟩ = some o1 := by
    rw [h5.own.cellAt (c * 2) (by omega)]
    exact ⟨_, List.getElem?_eq_getElem (by rw [h5.own.1]; omega)⟩
  obtain ⟨o2, ho2⟩ : ∃ o2, W5.cell? ⟨g, c * 2 + 1, none⟩ = some o2 := by
    rw [h5.own.cellAt (c * 2 + 1) (by omega)]
    exact ⟨_, List.getElem?_eq_getElem (by rw [h5.own.1]; omega)⟩
  have f1 := h5.own.frozenAt (c * 2)
  have f2 := h5.own.frozenAt (c * 2 + 1)
  have b8 : (c : Int) < (n : Int) + 1 := by omega
  have K6 : Hid (Held2 w ((W5.setCell ⟨g, c * 2, none⟩ (.int .u64 x.n)).setCell ⟨g, c * 2 + 1, none⟩ (.func (.func 11) #[] #[.pointer (some ⟨Lb, 0, none⟩), .pointer (some ⟨q, 0, none⟩)])) B G D count m r dr sd wt hv x.n kn M dv W.heap.size g cap n (cells2 fn sd (ins (wt r) x))) := by
    have e := hold_cells fn sd (wt r) x (.int .u64 0) .nilFunc (c := c) (by rw [← HN.out]; exact hcle)
    rw [HFV.out] at e
    have e2 : ins (wt r) x = (wt r).take c ++ x :: (wt r).drop c := by rw [HC.out]; rfl
    show Held2 _ _ _ _ _ _ _ _ _ _ _ _ _ _ _ _ _ _ _ _ _
    rw [e2, ← e]
    exact (h5.store (c * 2) _).store (c * 2 + 1) _
  have hB1 := hB
  clear h5 K1 K2 K3 K4 K5 HCur c8 H4 bw hB
  generalize (if cap = c + 1 then some (⟨g, 0, none⟩ : Addr) else some ⟨g, (c + 1) * 2, none⟩) = A1
  generalize (if cap = c then some (⟨g, 0, none⟩ : Addr) else some ⟨g, c * 2, none⟩) = A2
  go_wp2
  refine wp_forget (fun W' => Held2 w W' B G D count m r dr sd wt hv x.n kn M dv W.heap.size g cap n (cells2 fn sd (ins (wt r) x))) K6.out ?_
  intro W6 h6
  have e8 : W6.cell? ⟨W.heap.size, 0, none⟩ = some (.slice (some ⟨g, 0, none⟩) (n + 1) cap) := h6.wb.cell 0
  have e2 : W6.cell? ⟨G, 2, none⟩ = some (.map (some M)) := h6.gg.cell 2
  obtain ⟨es, ck, hes⟩ := h6.map.isMap
  obtain ⟨W7, hrun7, m7, g7'⟩ := (show MapIs W6.drew M m count wt hv from h6.map.kept rfl).put hr hc (Nat.le_trans hm (by decide)) (ins (wt r) x) (ins_ne _ _) (.slice (some ⟨g, 0, none⟩) (n + 1) cap)
  have g7 : W6.grownBy W7 (some M) := ⟨g7'.os, g7'.tape, g7'.output, g7'.size, g7'.block⟩
  have HF := gt_held h6 HX.out HN.out hr m7 g7
  have E8 : W7.cell? ⟨W.heap.size, 0, none⟩ = some (.slice (some ⟨g, 0, none⟩) (n + 1) cap) := (blk_map hes g7 h6.wb).cell 0
  have E2 : W7.cell? ⟨G, 2, none⟩ = some (.map (some M)) := (blk_map hes g7 h6.gg).cell 2
  have HFin := (show Hid _ from HF)
  clear h6 K6 d8 d9 ho1 ho2 f1 f2 hes m7 g7 g7' HF
  go_region_held3 (fun w' => w'.cell? ⟨W.heap.size, 0, none⟩ = some (.slice (some ⟨g, 0, none⟩) (n + 1) cap) ∧ w'.cell? ⟨G, 2, none⟩ = some (.map (some M))) (go_keep) (fail)
  go_wp2
  go_end0
  exact ⟨rfl, ⟨_, HFin.out.1⟩, HFin.out.2⟩

end Go.Proofs.Ybulktbi
