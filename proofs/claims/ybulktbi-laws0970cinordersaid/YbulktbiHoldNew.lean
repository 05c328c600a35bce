/-
  Seat b0970a, LawS0970CInOrder: the contract of Hold (function 10) where no map is there yet; and the whole.
-/
import Derived.Test.YbulktbiHold
namespace Go.Proofs.Ybulktbi
set_option linter.unusedSimpArgs false
open Go.RowKit
set_option linter.unusedVariables false

theorem held1_new {w : World} {B G D count m : Nat} {dr : Nat → Bool} {sd : Ent → Value} {wt : Nat → List Ent} {hv : Nat → Value} {N : Int} {kn : Nat} {dv : Value} (h : Gt w B G D count m dr sd wt hv) (hB : B ≤ w.heap.size)
    (hG : Blk w G #[.int .u64 4, .slice (some ⟨kn, 0, none⟩) count count, .map none, dv] 45) (hd : DropV w B D count dr dv) (he : ∀ r, r < count → wt r = [] ∧ hv r = nilS) :
    Held1 w (((w.setCell ⟨G, 2, none⟩ (.map (some (w.heap.size + 1)))).alloc (.cells #[.int .u64 N] 29)).alloc (.map #[] 0)) B G D count m dr sd wt hv N kn (w.heap.size + 1) dv := by
  have hsz0 : (w.setCell ⟨G, 2, none⟩ (.map (some (w.heap.size + 1)))).heap.size = w.heap.size := by simp [World.setCell]
  have hsz : ((w.setCell ⟨G, 2, none⟩ (.map (some (w.heap.size + 1)))).alloc (.cells #[.int .u64 N] 29)).heap.size = w.heap.size + 1 := by simp [World.setCell]
  have hmade := MapIs.made ((w.setCell ⟨G, 2, none⟩ (.map (some (w.heap.size + 1)))).alloc (.cells #[.int .u64 N] 29)) count wt hv he
  rw [hsz] at hmade
  have hnew := Blk.new (w.setCell ⟨G, 2, none⟩ (.map (some (w.heap.size + 1)))) #[.int .u64 N] 29
  rw [hsz0] at hnew
  have hk : ∀ b cs t, Blk w b cs t → t ≠ 45 → Blk (((w.setCell ⟨G, 2, none⟩ (.map (some (w.heap.size + 1)))).alloc (.cells #[.int .u64 N] 29)).alloc (.map #[] 0)) b cs t := fun b cs t hx ht => ((hx.setOther (hx.ne hG ht) 2 _).alloc _).alloc _
  refine ⟨?_, hnew.alloc _, ((hG.set 2 _).alloc _).alloc _, ?_, by omega, ?_, fun r hr => own47 (h.rows r hr) (fun b cs hb => hk b cs 47 hb (by decide))⟩
  · exact (((Stays.refl _ _ _).setCell hG (by simp) h.base 2 _).alloc (by rw [hsz0]; exact hB) _).alloc (by rw [hsz]; omega) _
  · rcases hd with hd | ⟨gd, e, h1, h2, h3⟩
    · exact .inl hd
    · exact .inr ⟨gd, e, h1, h2, hk _ _ _ h3 (by decide)⟩
  · obtain ⟨D', ho, h2⟩ := hmade.ex
    exact ⟨D', ho.mono (Nat.zero_le _), h2⟩

set_option maxHeartbeats 800000 in
theorem hold_new (w : World) (B G D count m r : Nat) (dr : Nat → Bool) (sd : Ent → Value) (wt : Nat → List Ent) (hv : Nat → Value) (h : Gt w B G D count m dr sd wt hv) (hr : r < count) (hc : count ≤ 8) (hB : B ≤ w.heap.size) (hdr : dr r = false) (x : Ent)
    (kn : Nat) (dv : Value) (hG : Blk w G #[.int .u64 4, .slice (some ⟨kn, 0, none⟩) count count, .map none, dv] 45) (hd : DropV w B D count dr dv) (he : ∀ r, r < count → wt r = [] ∧ hv r = nilS) (hm : m ≤ 512) (hsrt : Srt (wt r)) (hsd : ∀ y, (sd y).oneCell' = true) (Lb q : Nat) (hfv : sd x = .func (.func 11) #[] #[.pointer (some ⟨Lb, 0, none⟩), .pointer (some ⟨q, 0, none⟩)]) :
    Calls Yba.prog 10 #[.pointer (some ⟨G, 0, none⟩), .int .i64 r, .int .u64 x.n, .func (.func 11) #[] #[.pointer (some ⟨Lb, 0, none⟩), .pointer (some ⟨q, 0, none⟩)]] w fun e w' => e = .returned (.tuple #[]) ∧ (∃ v, Gt w' B G D count (m + 1) dr sd (upd wt r (ins (wt r) x)) (upd hv r v)) ∧ Stays B [45, 47] w w' := by
  have q2 := nilEq43
  have hmm := @run_makeMap Yba.prog
  have fz := hG.frozen 2
  have h1 : Gt (w.alloc (.cells #[.int .u64 x.n] 29)) B G D count m dr sd wt hv := h.keep ((Gk.refl D w).alloc _)
  have HH := (show Hid _ from h1)
  have H1 := (show Hid _ from held1_new (N := x.n) h hB hG hd he)
  have HX := (show Hid _ from h)
  have hGw := hG.lt
  have c2 : w.cell? ⟨G, 2, none⟩ = some (.map none) := hG.cell 2
  obtain ⟨ao, cp, hvr⟩ : ∃ ao cp, hv r = .slice ao (wt r).length cp := by
    rcases (h.rows r hr).2 with ⟨e, e0⟩ | ⟨g, cap, cur, e, _⟩
    · exact ⟨_, _, by rw [e, e0]⟩
    · exact ⟨_, _, e⟩
  have HV := (show Hid _ from hvr)
  have HFV := (show Hid _ from hfv)
  clear hfv
  clear h h1 hG hd hvr he
  obtain ⟨M, hMd⟩ : ∃ M, M = w.heap.size + 1 := ⟨_, rfl⟩
  go_enter Yba.func10, Yba.ntmps10
  go_wp2_with fail
  refine (isDropped_any _ B G D count m r dr sd wt hv HH.out hr hc).mono ?_
  rintro e w1 ⟨rfl, rfl⟩
  rw [hdr]
  clear HH
  go_wp2_with (at_lookup; refine wpList_lookup_is rfl _ _ rfl rfl rfl (.slice ao (wt r).length cp) (by rw [← HV.out]; exact H1.out.map.look hr hc) (fun W => Held1 w W B G D count m dr sd wt hv x.n kn (w.heap.size + 1) dv) H1.out ?_)
  intro W hW
  clear H1 hmm
  rw [← hMd] at hW ⊢
  clear hMd
  go_wp2_with fail
  have hrow := hW.rows r hr
  rw [HV.out] at hrow
  obtain ⟨g0, hg0⟩ : ∃ g0, 0 < (wt r).length → ao = some ⟨g0, 0, none⟩ := by
    rcases hrow.2 with ⟨e, e0⟩ | ⟨g, cap, cur, e, _⟩
    · exact ⟨0, fun h => by omega⟩
    · simp only [Value.slice.injEq] at e
      exact ⟨g, fun _ => e.1⟩
  have hms : ∀ k, k < (wt r).length → (W.alloc (.cells #[.slice ao (wt r).length cp] 41)).cell? ⟨g0, k * 2, none⟩ = some (.int .u64 (msOf (wt r) k)) := by
    intro k hk
    have hrow' := hrow.alloc (.cells #[.slice ao (wt r).length cp] 41)
    rw [hg0 (by omega)] at hrow'
    rw [hg0 (by omega), hrow'.cellAt (k * 2) (by omega), cells2_fst fn sd (wt r) k hk, msOf_at _ hk]
    rfl
  have hle : (wt r).length ≤ m := HX.out.len r hr
  refine (search_any ao (wt r).length cp W.heap.size w.heap.size g0 (cut (wt r) x.n) x.n (msOf (wt r)) _ ?s1 hg0 ?s2 (by omega) hms (cut_le _ _) (fun k hk => by rw [msOf_at _ hk]; exact cut_spec hsrt x.n k hk)).mono ?_
  case s1 => exact (Blk.new W _ 41).cell 0
  case s2 => exact (hW.nb.alloc _).cell 0
  rintro e w2 ⟨rfl, nd, rfl⟩
  clear hms
  obtain ⟨c, hcut⟩ : ∃ c, c = cut (wt r) x.n := ⟨_, rfl⟩
  rw [← hcut]
  have hcle : c ≤ (wt r).length := by rw [hcut]; exact cut_le _ _
  have HC := (show Hid _ from hcut)
  have HW := (show Hid _ from hW)
  have HR : Hid (W.ownsRow B 47 2 (.slice ao (wt r).length cp) (wt r).length (cells2 fn sd (wt r))) := hrow
  clear hcut hW hrow
  obtain ⟨i0, hi, hz0, hz1, hz2⟩ := info_parts info47
  have hBW : B ≤ W.heap.size := Nat.le_trans hB HW.out.st.below.size
  go_wp2_with (at_builtin; go_must (refine wpList_append_lies _ rfl _ _ 41 rfl B 47 i0 (.agg #[.int .u64 0, .nilFunc]) 2 16 Yba.underlying41 hi hz0 hz1 hz2 rfl (Nat.succ_pos 1) (.slice ao (wt r).length cp) (wt r).length (cells2 fn sd (wt r)) rfl ?hown ⟨W.heap.size + 1, 0, none⟩ 1 1 [.int .u64 0, .nilFunc] rfl rfl ?hnews ?hone Nat.one_pos ?h63 ?hby ?hbase (W.heap.size + 2) ?hH ?_))
  case hown => exact (HR.out.alloc _).alloc _
  case hnews =>
    intro j u hj
    have hb : Blk ((W.alloc (.cells #[.slice ao (wt r).length cp] 41)).alloc (.cells #[.int .u64 0, .nilFunc] 47)) (W.heap.size + 1) #[.int .u64 0, .nilFunc] 47 := by
      have := Blk.new (W.alloc (.cells #[.slice ao (wt r).length cp] 41)) #[.int .u64 0, .nilFunc] 47
      simpa using this
    exact World.news_of_block hb j u hj
  case hone => intro u hu; simp at hu; rcases hu with rfl | rfl <;> rfl
  case h63 => unfold maxLen; omega
  case hby => omega
  case hbase => simp; omega
  case hH => simp
  intro g cap w3 hown3 hgrow hat hlt
  have hgrow' : ((W.alloc (.cells #[.slice ao (wt r).length cp] 41)).alloc (.cells #[.int .u64 0, .nilFunc] 47)).grownBy w3 (Value.slice ao (wt r).length cp).ownBlock := ⟨hgrow.os, hgrow.tape, hgrow.output, hgrow.size, hgrow.block⟩
  obtain ⟨hwb, hH2⟩ := held2_mk HW.out hr hBW HX.out.apart HV.out hown3 hgrow' hat
  have hwc := hwb.cell 0
  have hwf := hwb.frozen 0
  have H2 := (show Hid _ from hH2)
  clear hown3 hgrow hgrow' hat hlt hwb hH2 HW HR
  go_wp2
  refine wp_forget (fun W' => Held2 w W' B G D count m r dr sd wt hv x.n kn M dv W.heap.size g cap (wt r).length (cells2 fn sd (wt r) ++ [.int .u64 0, .nilFunc])) H2.out ?_
  intro W4 h4
  have c8 : W4.cell? ⟨W.heap.size, 0, none⟩ = some (.slice (some ⟨g, 0, none⟩) ((wt r).length + 1) cap) := h4.wb.cell 0
  obtain ⟨n, hnn⟩ : ∃ n, n = (wt r).length := ⟨_, rfl⟩
  have HN := (show Hid _ from hnn)
  rw [← hnn] at c8 hcle hle ⊢
  have hcap : n + 1 ≤ cap ∧ cap ≤ maxLen := by
    rcases h4.own.2 with ⟨e, _⟩ | ⟨g', cap', cur, e, _, _, h1, h2, _⟩
    · simp at e
    · simp at e; omega
  unfold maxLen at hcap
  have H4 := (show Hid _ from h4)
  clear hnn h4
  have b1 : (0 : Int) ≤ (c : Int) := by omega
  have b2 : (c : Int) ≤ (n : Int) + 1 := by omega
  have b3 : (c : Int) + 1 ≤ (n : Int) + 1 := by omega
  have b4 : (n : Int) + 1 ≤ (cap : Int) := by omega
  have b5 : (c : Int) + 1 ≤ (cap : Int) := by omega
  have b6 : (c : Int) ≤ (cap : Int) := by omega
  have b7 : (0 : Int) ≤ (c : Int) + 1 := by omega
  have bw := wrap_small c (by omega)
  obtain ⟨cur, hcur, hcs, htk⟩ : ∃ cur, Blk W4 g cur 47 ∧ cur.size = cap * 2 ∧ cur.toList.take ((n + 1) * 2) = cells2 fn sd (wt r) ++ [.int .u64 0, .nilFunc] := by
    have ho := H4.out.own
    rw [← HN.out] at ho
    rcases ho.2 with ⟨e, _⟩ | ⟨g', cap', cur, e, _, h1, _, _, h2, h3⟩
    · simp at e
    · simp at e; obtain ⟨rfl, rfl⟩ := e; exact ⟨cur, h1, h2, h3⟩
  obtain ⟨cs, hcsd⟩ : ∃ cs, cs = cells2 fn sd ((wt r).drop c) := ⟨_, rfl⟩
  have hcl : cs.length = (n - c) * 2 := by rw [hcsd, cells2_length, List.length_drop, ← HN.out]
  have hmin : Nat.min (n + 1 - c) (n - c) = n - c := Nat.min_eq_right (by omega)
  have K1 : Hid (cs.length = Nat.min (n + 1 - c) (n - c) * 2) := by show _ = _; rw [hmin, hcl]
  have K2 : Hid (0 < cs.length → (if cap = c + 1 then some ⟨g, 0, none⟩ else some ⟨g, (c + 1) * 2, none⟩ : Option Addr) = some ⟨g, (c + 1) * 2, none⟩ ∧ ∃ ad, (if cap = c then some ⟨g, 0, none⟩ else some ⟨g, c * 2, none⟩ : Option Addr) = some ad ∧ ∀ j v, cs[j]? = some v → W4.drew.cell? (ad.add j) = some v) := by
    intro hp
    refine ⟨if_neg (by omega), ⟨g, c * 2, none⟩, if_neg (by omega), fun j v hj => ?_⟩
    have hjl : j < cs.length := (List.getElem?_eq_some_iff.1 hj).1
    have hadd : (⟨g, c * 2, none⟩ : Addr).add j = ⟨g, c * 2 + j, none⟩ := by unfold Addr.add; split <;> simp_all
    have ho := H4.out.own
    rw [← HN.out] at ho
    rw [hadd]
    show W4.cell? ⟨g, c * 2 + j, none⟩ = some v
    rw [ho.cellAt (c * 2 + j) (by omega), List.getElem?_append_left (by rw [cells2_length, ← HN.out]; omega)]
    rw [hcsd, ← cells2_drop, List.getElem?_drop] at hj
    exact hj
  have K3 : Hid ((c + 1) * 2 + cs.length ≤ cur.size) := by show _ ≤ _; rw [hcl, hcs]; omega
  have K4 : Hid (∀ v ∈ cs, v.oneCell' = true) := by
    intro v hv'
    rw [hcsd] at hv'
    unfold cells2 at hv'
    rw [List.mem_flatMap] at hv'
    obtain ⟨y, _, hy⟩ := hv'
    simp at hy
    rcases hy with rfl | rfl
    · rfl
    · exact hsd y
  have K5 : Hid (Held2 w (W4.drew.setRow g (cur.toList.take ((c + 1) * 2) ++ cs ++ cur.toList.drop ((c + 1) * 2 + cs.length)).toArray) B G D count m r dr sd wt hv x.n kn M dv W.heap.size g cap n ((cells2 fn sd (wt r) ++ [Value.int .u64 0, Value.nilFunc]).take ((c + 1) * 2) ++ cells2 fn sd ((wt r).drop c))) := by
    have h4' := H4.out
    rw [← HN.out] at h4'
    have h4d : Held2 w W4.drew B G D count m r dr sd wt hv x.n kn M dv W.heap.size g cap n (cells2 fn sd (wt r) ++ [.int .u64 0, .nilFunc]) := ⟨⟨h4'.st.below.drew, h4'.st.keep⟩, h4'.nb, h4'.wb, h4'.gg, h4'.dr, h4'.mB, h4'.map.kept rfl, h4'.rows, h4'.own, h4'.size⟩
    have hlen : cur.toList.length = cap * 2 := by simpa using hcs
    refine h4d.reset (cur := cur) hcur hcs _ (by simp only [List.length_append, List.length_take, List.length_drop, hlen, hcl]; omega) ?_
    have e1 : (cur.toList.take ((c + 1) * 2) ++ cs).length = (n + 1) * 2 := by simp only [List.length_append, List.length_take, hlen, hcl]; omega
    rw [← e1, List.take_left, ← hcsd, ← htk, List.take_take, Nat.min_eq_left (by omega)]
  have HCur : Hid (W4.drew.heap[g]? = some (.cells cur 47 (0, 0))) := hcur
  clear hcur htk hcsd hcl hcs
  go_region_held3 (fun w' => w'.cell? ⟨W.heap.size, 0, none⟩ = some (.slice (some ⟨g, 0, none⟩) (n + 1) cap)) (first | exact h5.wb.cell 0 | go_keep) ((refine step_copy_size (by rfl) (.tmp 39) (.tmp 42) 41 41 (by rfl) 47 2 Yba.underlying41 size47 (if cap = c + 1 then some ⟨g, 0, none⟩ else some ⟨g, (c + 1) * 2, none⟩) (if cap = c then some ⟨g, 0, none⟩ else some ⟨g, c * 2, none⟩) (n - c) (cap - (c + 1)) (n + 1 - c) (cap - c) (by rfl) (by rfl) g ((c + 1) * 2) cur 47 HCur.out cs K1.out K2.out K3.out K4.out (fun W' => Held2 w W' B G D count m r dr sd wt hv x.n kn M dv W.heap.size g cap n ((cells2 fn sd (wt r) ++ [Value.int .u64 0, Value.nilFunc]).take ((c + 1) * 2) ++ cells2 fn sd ((wt r).drop c))) K5.out ?_; intro W5 h5))
  have d8 : W5.cell? ⟨W.heap.size, 0, none⟩ = some (.slice (some ⟨g, 0, none⟩) (n + 1) cap) := h5.wb.cell 0
  have d9 : W5.cell? ⟨w.heap.size, 0, none⟩ = some (.int .u64 x.n) := h5.nb.cell 0
  obtain ⟨o1, ho1⟩ : ∃ o1, W5.cell? ⟨g, c * 2, none⟩ = some o1 := by
    rw [h5.own.cellAt (c * 2) (by omega)]
    exact ⟨_, List.getElem?_eq_getElem (by rw [h5.own.1]; omega)⟩
  obtain ⟨o2, ho2⟩ : ∃ o2, W5.cell? ⟨g, c * 2 + 1, none⟩ = some o2 := by
    rw [h5.own.cellAt (c * 2 + 1) (by omega)]
    exact ⟨_, List.getElem?_eq_getElem (by rw [h5.own.1]; omega)⟩
  have f1 := h5.own.frozenAt (c * 2)
  have f2 := h5.own.frozenAt (c * 2 + 1)
  have b8 : (c : Int) < (n : Int) + 1 := by omega
  have K6 : Hid (Held2 w ((W5.setCell ⟨g, c * 2, none⟩ (.int .u64 x.n)).setCell ⟨g, c * 2 + 1, none⟩ (.func (.func 11) #[] #[.pointer (some ⟨Lb, 0, none⟩), .pointer (some ⟨q, 0, none⟩)])) B G D count m r dr sd wt hv x.n kn M dv W.heap.size g cap n (cells2 fn sd (ins (wt r) x))) := by
    have e := hold_cells fn sd (wt r) x (.int .u64 0) .nilFunc (c := c) (by rw [← HN.out]; exact hcle)
    rw [HFV.out] at e
    have e2 : ins (wt r) x = (wt r).take c ++ x :: (wt r).drop c := by rw [HC.out]; rfl
    show Held2 _ _ _ _ _ _ _ _ _ _ _ _ _ _ _ _ _ _ _ _ _
    rw [e2, ← e]
    exact (h5.store (c * 2) _).store (c * 2 + 1) _
  have hB1 := hB
  clear h5 K1 K2 K3 K4 K5 HCur c8 H4 bw hB
  generalize (if cap = c + 1 then some (⟨g, 0, none⟩ : Addr) else some ⟨g, (c + 1) * 2, none⟩) = A1
  generalize (if cap = c then some (⟨g, 0, none⟩ : Addr) else some ⟨g, c * 2, none⟩) = A2
  go_wp2
  refine wp_forget (fun W' => Held2 w W' B G D count m r dr sd wt hv x.n kn M dv W.heap.size g cap n (cells2 fn sd (ins (wt r) x))) K6.out ?_
  intro W6 h6
  have e8 : W6.cell? ⟨W.heap.size, 0, none⟩ = some (.slice (some ⟨g, 0, none⟩) (n + 1) cap) := h6.wb.cell 0
  have e2 : W6.cell? ⟨G, 2, none⟩ = some (.map (some M)) := h6.gg.cell 2
  obtain ⟨es, ck, hes⟩ := h6.map.isMap
  obtain ⟨W7, hrun7, m7, g7'⟩ := (show MapIs W6.drew M m count wt hv from h6.map.kept rfl).put hr hc (Nat.le_trans hm (by decide)) (ins (wt r) x) (ins_ne _ _) (.slice (some ⟨g, 0, none⟩) (n + 1) cap)
  have g7 : W6.grownBy W7 (some M) := ⟨g7'.os, g7'.tape, g7'.output, g7'.size, g7'.block⟩
  have HF := gt_held h6 HX.out HN.out hr m7 g7
  have E8 : W7.cell? ⟨W.heap.size, 0, none⟩ = some (.slice (some ⟨g, 0, none⟩) (n + 1) cap) := (blk_map hes g7 h6.wb).cell 0
  have E2 : W7.cell? ⟨G, 2, none⟩ = some (.map (some M)) := (blk_map hes g7 h6.gg).cell 2
  have HFin := (show Hid _ from HF)
  clear h6 K6 d8 d9 ho1 ho2 f1 f2 hes m7 g7 g7' HF
  go_region_held3 (fun w' => w'.cell? ⟨W.heap.size, 0, none⟩ = some (.slice (some ⟨g, 0, none⟩) (n + 1) cap) ∧ w'.cell? ⟨G, 2, none⟩ = some (.map (some M))) (go_keep) (fail)
  go_wp2
  go_end0
  exact ⟨rfl, ⟨_, HFin.out.1⟩, HFin.out.2⟩


theorem hold_any (w : World) (B G D count m r : Nat) (dr : Nat → Bool) (sd : Ent → Value) (wt : Nat → List Ent) (hv : Nat → Value) (h : Gt w B G D count m dr sd wt hv) (hr : r < count) (hc : count ≤ 8) (hB : B ≤ w.heap.size) (hdr : dr r = false) (x : Ent)
    (hm : m ≤ 512) (hsrt : Srt (wt r)) (hsd : ∀ y, (sd y).oneCell' = true) (Lb q : Nat) (hfv : sd x = .func (.func 11) #[] #[.pointer (some ⟨Lb, 0, none⟩), .pointer (some ⟨q, 0, none⟩)]) :
    Calls Yba.prog 10 #[.pointer (some ⟨G, 0, none⟩), .int .i64 r, .int .u64 x.n, .func (.func 11) #[] #[.pointer (some ⟨Lb, 0, none⟩), .pointer (some ⟨q, 0, none⟩)]] w fun e w' => e = .returned (.tuple #[]) ∧ (∃ v, Gt w' B G D count (m + 1) dr sd (upd wt r (ins (wt r) x)) (upd hv r v)) ∧ Stays B [45, 47] w w' := by
  obtain ⟨kn, mv, dv, hG, hd, hmv⟩ := h.ex
  rcases hmv with ⟨rfl, he⟩ | ⟨M, rfl, hMB, hM⟩
  · exact hold_new w B G D count m r dr sd wt hv h hr hc hB hdr x kn dv hG hd he hm hsrt hsd Lb q hfv
  · exact hold_old w B G D count m r dr sd wt hv h hr hc hB hdr x kn M dv hG hd hMB hM hm hsrt hsd Lb q hfv

end Go.Proofs.Ybulktbi
