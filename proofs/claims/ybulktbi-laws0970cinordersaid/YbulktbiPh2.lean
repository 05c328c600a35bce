/-
  Seat b0970a, LawS0970CInOrder: the second half: what holds while the sends run; the contract of a send (function 11).
-/
import Derived.Test.YbulktbiPh1
namespace Go.Proofs.Ybulktbi
set_option linter.unusedSimpArgs false
open Go.RowKit
set_option linter.unusedVariables false

theorem info3 : (Yba.prog.info? 3).map (fun i => (i.zero, i.size, i.bytes)) = some (some (.int .i64 0), 1, 8) := by kernel_rfl

/-- V: the world behind the first loop. Of its blocks the log's variable alone has turned since. -/
structure Ph2 (V W : World) (L : Nat) (lv : Value) (xs : List Int) : Prop where
  old : ∀ b, b < V.heap.size → b ≠ L → W.heap[b]? = V.heap[b]?
  os : W.os = V.os
  tape : W.tape = V.tape
  output : W.output = V.output
  size : V.heap.size ≤ W.heap.size
  lb : Blk W L #[lv] 32
  log : W.ownsRow V.heap.size 3 1 lv xs.length (xs.map (Value.int .i64))

theorem Ph2.start {V : World} {L : Nat} (hL : Blk V L #[nilS] 32) : Ph2 V V L nilS [] := ⟨fun _ _ _ => rfl, rfl, rfl, rfl, Nat.le_refl _, hL, World.ownsRow_nil _ _ _ _⟩

theorem Ph2.below {V W W' : World} {L : Nat} {lv : Value} {xs : List Int} (h : Ph2 V W L lv xs) (hb : Below W.heap.size W W') : Ph2 V W' L lv xs :=
  ⟨fun b h1 h2 => (hb.block b (Nat.lt_of_lt_of_le h1 h.size)).trans (h.old b h1 h2), hb.os.trans h.os, hb.tape.trans h.tape, hb.output.trans h.output, Nat.le_trans h.size hb.size, (hb.block L h.lb.lt).trans h.lb,
    own47 h.log (fun b cs hx => (hb.block b hx.lt).trans hx)⟩

theorem Ph2.drewN {V W : World} {L : Nat} {lv : Value} {xs : List Int} (h : Ph2 V W L lv xs) (n : Nat) : Ph2 V (W.drewN n) L lv xs := ⟨h.old, h.os, h.tape, h.output, h.size, h.lb, h.log⟩

theorem Ph2.keep {V W : World} {L : Nat} {lv : Value} {xs : List Int} (h : Ph2 V W L lv xs) (hL : Blk V L #[nilS] 32) {b : Nat} {cs : Array Value} {t : TypeId} (hb : Blk V b cs t) (ht : t ≠ 32) : Blk W b cs t :=
  (h.old b hb.lt (hb.ne hL ht)).trans hb

theorem Ph2.map {V W : World} {L : Nat} {lv : Value} {xs : List Int} (h : Ph2 V W L lv xs) (hL : Blk V L #[nilS] 32) {b : Nat} {es : Array MapEntry} {c : Nat} (hb : V.heap[b]? = some (.map es c)) : W.heap[b]? = V.heap[b]? :=
  h.old b (Array.getElem?_eq_some_iff.1 hb).1 (fun e => by subst e; unfold Blk at hL; rw [hb] at hL; simp at hL)

theorem Ph2.fin {V W w : World} {L B : Nat} {lv : Value} {xs : List Int} (h : Ph2 V W L lv xs) (hV : Below B w V) (hB : B ≤ V.heap.size) (hL : B ≤ L) : Below B w W :=
  hV.trans ⟨h.os, h.tape, h.output, h.size, fun k hk => h.old k (by omega) (by omega)⟩

/-- Behind a send. -/
theorem Ph2.sent {V W w3 : World} {L : Nat} {lv : Value} {xs : List Int} {g cap : Nat} {k : Int} {o : Obj} (h : Ph2 V W L lv xs) (hLV : L < V.heap.size)
    (hown : w3.ownsRow V.heap.size 3 1 (.slice (some ⟨g, 0, none⟩) (xs.length + 1) cap) (xs.length + 1) (xs.map (Value.int .i64) ++ [.int .i64 k])) (hgrow : (W.alloc o).grownBy w3 lv.ownBlock) :
    Blk w3 L #[lv] 32 ∧ Ph2 V (w3.setCell ⟨L, 0, none⟩ (.slice (some ⟨g, 0, none⟩) (xs.length + 1) cap)) L (.slice (some ⟨g, 0, none⟩) (xs.length + 1) cap) (xs ++ [k]) ∧
    (∀ b cs t, Blk W b cs t → t ≠ 32 → t ≠ 3 → Blk (w3.setCell ⟨L, 0, none⟩ (.slice (some ⟨g, 0, none⟩) (xs.length + 1) cap)) b cs t) ∧
    (w3.setCell ⟨L, 0, none⟩ (.slice (some ⟨g, 0, none⟩) (xs.length + 1) cap)).cell? ⟨g, xs.length, none⟩ = some (.int .i64 k) := by
  have ho := h.log.alloc o
  have hk : ∀ b cs t, Blk W b cs t → t ≠ 3 → Blk w3 b cs t := fun b cs t hx ht => (hx.alloc o).grown hgrow (own_off ho (hx.alloc o) ht)
  have hL3 := hk _ _ _ h.lb (by decide)
  have hsz : V.heap.size ≤ w3.heap.size := Nat.le_trans h.size (by have := hgrow.size; simp at this; omega)
  have hown' : (w3.setCell ⟨L, 0, none⟩ (.slice (some ⟨g, 0, none⟩) (xs.length + 1) cap)).ownsRow V.heap.size 3 1 (.slice (some ⟨g, 0, none⟩) (xs.length + 1) cap) (xs.length + 1) (xs.map (Value.int .i64) ++ [.int .i64 k]) := own47 hown (fun b cs hb => hb.setOther (hb.ne hL3 (by decide)) 0 _)
  refine ⟨hL3, ⟨fun b h1 h2 => ?_, hgrow.os.trans h.os, hgrow.tape.trans h.tape, hgrow.output.trans h.output, by simp [World.setCell]; exact hsz, hL3.set 0 _, ?_⟩, fun b cs t hx ht h3 => (hk b cs t hx h3).setOther ((hk b cs t hx h3).ne hL3 ht) 0 _, ?_⟩
  · rw [Below.heap_setCell w3 ⟨L, 0, none⟩ _ b h2, hgrow.block b (by simp; have := h.size; omega) (fun e => by have := (h.log.lt b e.symm).1; omega), Below.heap_alloc W o b (by have := h.size; omega)]
    exact h.old b h1 h2
  · simpa using hown'
  · rw [hown'.cellAt xs.length (by omega), List.getElem?_append_right (by simp)]
    simp

set_option maxHeartbeats 400000 in
theorem send_any (V W : World) (L q : Nat) (lv : Value) (xs : List Int) (k : Int) (h : Ph2 V W L lv xs) (hLV : L < V.heap.size) (hq : Blk W q #[.int .i64 k] 3) (hx : xs.length ≤ 100000) :
    Calls Yba.prog 11 #[.pointer (some ⟨L, 0, none⟩), .pointer (some ⟨q, 0, none⟩)] W fun e w' => e = .returned (.tuple #[]) ∧ ∃ g cap, Ph2 V w' L (.slice (some ⟨g, 0, none⟩) (xs.length + 1) cap) (xs ++ [k]) ∧
      (∀ b cs t, Blk W b cs t → t ≠ 32 → t ≠ 3 → Blk w' b cs t) ∧ w'.cell? ⟨g, xs.length, none⟩ = some (.int .i64 k) := by
  obtain ⟨i0, hi, hz0, hz1, hz2⟩ := info_parts info3
  have c1 : W.cell? ⟨L, 0, none⟩ = some lv := h.lb.cell 0
  have c2 : W.cell? ⟨q, 0, none⟩ = some (.int .i64 k) := hq.cell 0
  have HH := (show Hid (Ph2 V W L lv xs) from h)
  have hs := h.size
  clear h hq
  go_enter Yba.func11, Yba.ntmps11
  go_wp2_with (at_builtin; go_must (refine wpList_append_lies _ rfl _ _ 32 rfl V.heap.size 3 i0 (.int .i64 0) 1 8 Yba.underlying32 hi hz0 hz1 hz2 rfl Nat.one_pos lv xs.length (xs.map (Value.int .i64)) rfl ?hown ⟨W.heap.size, 0, none⟩ 1 1 [.int .i64 k] rfl rfl ?hnews ?hone Nat.one_pos ?h63 ?hby ?hbase (W.heap.size + 1) ?hH ?_))
  case hown => exact HH.out.log.alloc _
  case hnews => exact World.news_of_block (Blk.new W #[.int .i64 k] 3)
  case hone => intro u hu; simp at hu; subst hu; rfl
  case h63 => unfold maxLen; omega
  case hby => omega
  case hbase => simp; omega
  case hH => simp
  intro g cap w3 hown hgrow hat hlt
  obtain ⟨hL3, h1, h2, h3⟩ := HH.out.sent hLV hown hgrow
  have d1 := hL3.cell 0
  have d2 := hL3.frozen 0
  have HF := (show Hid _ from And.intro h1 (And.intro h2 h3))
  clear hown hgrow hat hlt hL3 h1 h2 h3
  go_wp2
  go_end0
  exact ⟨rfl, g, cap, HF.out.1, HF.out.2.1, HF.out.2.2⟩

end Go.Proofs.Ybulktbi
