/-
  Seat b0970a, LawS0970CInOrder: the walk (function 5).
-/
import Derived.Test.YbulktbiPh2
import Derived.Deep.RegionLaw
import Derived.BigRegion
import Derived.Deep.Light
namespace Go.Proofs.Ybulktbi
set_option linter.unusedSimpArgs false
open Go.RowKit
set_option linter.unusedVariables false

/-- The script that came in. -/
def OpsIn (w : World) (B : Nat) (a : Option Addr) (len : Nat) (fo fr fN : Nat → Int) : Prop :=
  ∀ j, j < len → 0 ≤ fo j ∧ fo j ≤ 255 ∧ 0 ≤ fr j ∧ fr j ≤ 255 ∧ ∃ b off, a = some ⟨b, off, none⟩ ∧ b < B ∧ w.cell? ⟨b, off + j * 3, none⟩ = some (.int .u8 (fo j)) ∧ w.cell? ⟨b, off + j * 3 + 1, none⟩ = some (.int .u8 (fr j)) ∧ w.cell? ⟨b, off + j * 3 + 2, none⟩ = some (.int .u64 (fN j))

theorem info36 : (Yba.prog.info? 36).map (fun i => (i.zero, i.size, i.bytes)) = some (some (.slice none 0 0), 1, 24) := by kernel_rfl

set_option maxHeartbeats 400000 in
set_option maxRecDepth 1000000 in
theorem main_long (c : Int) (a : Option Addr) (len cap : Nat) (w : World) (hlen : 512 < len) (hm : len ≤ maxLen) :
    Calls Yba.prog 5 #[.int .u8 c, .slice a len cap] w fun e w' => e = .returned (.bool true) ∧ Below w.heap.size w w' := by
  unfold maxLen at hm
  go_enter Yba.func5, Yba.ntmps5
  go_wp2
  go_ret
  exact ⟨rfl, Below.refl _ _⟩

theorem ph1_start {w w1 : World} {G count : Nat} (hg : ∀ D sd, Gt w1 w.heap.size G D count 0 (fun _ => false) sd (fun _ => []) (fun _ => nilS)) (hs : Stays w.heap.size [] w w1) (hz : w.heap.size ≤ w1.heap.size) :
    Ph1 w (((w1.alloc (.cells (vals count fun _ => .slice none 0 0) 36)).alloc (.cells (vals count fun _ => .bool false) 4)).alloc (.cells #[.slice none 0 0] 32)) w.heap.size G w1.heap.size (w1.heap.size + 1) (w1.heap.size + 1 + 1) count 0 (fun _ => false) (fun _ => []) (fun _ => nilS) (fun _ => nilS) := by
  have e1 : (w1.alloc (.cells (vals count fun _ => .slice none 0 0) 36)).heap.size = w1.heap.size + 1 := by simp
  have e2 : ((w1.alloc (.cells (vals count fun _ => .slice none 0 0) 36)).alloc (.cells (vals count fun _ => .bool false) 4)).heap.size = w1.heap.size + 1 + 1 := by simp
  have hD := Blk.new (w1.alloc (.cells (vals count fun _ => .slice none 0 0) 36)) (vals count fun _ => .bool false) 4
  rw [e1] at hD
  have hL := Blk.new ((w1.alloc (.cells (vals count fun _ => .slice none 0 0) 36)).alloc (.cells (vals count fun _ => .bool false) 4)) #[.slice none 0 0] 32
  rw [e2] at hL
  refine ⟨(hg _ _).keep ((((Gk.refl _ w1).alloc _).alloc _).alloc _), ((Blk.new w1 _ 36).alloc _).alloc _, hD.alloc _, hL, fun r _ => World.ownsRow_nil _ _ _ _, fun a b _ _ _ g h => by simp [nilS, Value.ownBlock] at h, fun _ _ _ => rfl, fun _ _ => by simp, fun _ _ x hx => (by cases hx), fun _ _ h => (by cases h), ?_, hz, by omega, by omega, by simp; omega⟩
  exact ((hs.below.alloc hz _).alloc (by rw [e1]; omega) _).alloc (by rw [e2]; omega) _

theorem fneq (f : Fn) (a b : Array Value) (w : World) : (binOp .eql 1 (.func f a b) .nilFunc).run Yba.prog w = .ok (.bool false) w := by kernel_rfl

/-- What the second half is told of the Gates and of exp, at the world V behind the first loop. -/
structure Half (w V : World) (G E L count top : Nat) (ex : Nat → List Ent) (hv ev : Nat → Value) (mv : Value) : Prop where
  lb : Blk V L #[nilS] 32
  eb : Blk V E (vals count ev) 36
  g2 : ∃ kn dv, Blk V G #[.int .u64 4, .slice (some ⟨kn, 0, none⟩) count count, mv, dv] 45
  rows : ∀ r, r < count → V.ownsRow w.heap.size 39 2 (ev r) (ex r).length (cells2 fn fk (ex r))
  nil : ∀ r, r < count → ex r = [] → ev r = nilS
  held : ∀ r, r < count → V.ownsRow w.heap.size 47 2 (hv r) (isort (ex r)).length (cells2 fn (sdL L) (isort (ex r)))
  look : ∀ W lv xs, Ph2 V W L lv xs → ∀ r, r < count → (Instr.lookup 43 mv (.int .i64 r) false).run Yba.prog W = .ok (hv r) W
  len : ∀ W lv xs, Ph2 V W L lv xs → ∀ ty, (Builtin.len_ #[43] ty #[mv]).run Yba.prog W = .ok (.int .i64 (nonE count (fun r => isort (ex r)))) W
  le : ∀ r, r < count → (ex r).length ≤ top
  ks : ∀ r, r < count → ∀ x ∈ ex r, Blk V x.q #[.int .i64 x.k] 3
  below : Below w.heap.size w V
  bL : w.heap.size ≤ L
  size : w.heap.size ≤ V.heap.size

theorem nonE_zero {count : Nat} {wt : Nat → List Ent} (h : ∀ r, r < count → wt r = []) : nonE count wt = 0 := by
  suffices hh : ∀ c, c ≤ count → nonE c wt = 0 from hh count (Nat.le_refl _)
  intro c
  induction c with
  | zero => intro _; rfl
  | succ c ih => intro hc; rw [nonE, ih (by omega), h c (by omega)]; rfl

theorem Ph1.half {w V : World} {G E D L count idx : Nat} {dr : Nat → Bool} {ex : Nat → List Ent} {hv ev : Nat → Value} (h : Ph1 w V w.heap.size G E D L count idx dr ex hv ev) (hc : count ≤ 8) : ∃ mv, Half w V G E L count idx ex hv ev mv := by
  obtain ⟨kn, mv, dv, hG, hd, hm⟩ := h.gt.ex
  refine ⟨mv, h.lb, h.eb, ⟨kn, dv, hG⟩, h.rows, h.nil, h.gt.rows, fun W lv xs hW r hr => ?_, fun W lv xs hW ty => ?_, h.len, h.ks, h.below, h.bL, h.size⟩
  · rcases hm with ⟨rfl, he⟩ | ⟨M, rfl, _, hM⟩
    · rw [(he r hr).2]
      exact Maps.look_nil (P := Yba.prog) false law Yba.underlying43 (zero41 W) (key_of r (by omega))
    · obtain ⟨es, ck, hes⟩ := hM.isMap
      exact (hM.kept (hW.map h.lb hes)).look hr hc
  · rcases hm with ⟨rfl, he⟩ | ⟨M, rfl, _, hM⟩
    · rw [nonE_zero (fun r hr => (he r hr).1)]
      exact Maps.len_nil Yba.underlying43 ty
    · obtain ⟨es, ck, hes⟩ := hM.isMap
      exact (hM.kept (hW.map h.lb hes)).len ty

/-- 'len(m)' at the operation. -/
theorem wpList_len_is {w : World} {ops : Array Oper} {rest : List Oper} {o : Oper} {a : Act} {Q : Exit → Act → World → Prop} (hg : o.guard = none) (m : Operand) (hop : o.op = Op.call { callee := Callee.builtin Builtin.len, args := #[m], argTypes := #[43] })
    (mv : Value) (hm : a.eval m = mv) (n : Nat) (hrun : ∀ ty, (Builtin.len_ #[43] ty #[mv]).run Yba.prog w = .ok (.int .i64 n) w) (hK : wpList Yba.prog ops Q rest (a.put o.dst (.int .i64 n)) w) : wpList Yba.prog ops Q (o :: rest) a w := by
  refine wpList_plain hg fun K' hK' => ?_
  unfold Oper.wp
  simp [execOp, hop, resolve, invoke, builtin, hm, hrun o.type, Result.andThen]
  exact hK' _ _ hK

set_option maxHeartbeats 4000000 in
set_option maxRecDepth 1000000 in
theorem main_short (c : Int) (a : Option Addr) (len cap : Nat) (fo fr fN : Nat → Int) (w : World) (hin : OpsIn w w.heap.size a len fo fr fN) (hc0 : 0 ≤ c) (hc1 : c ≤ 255) (hlen : len ≤ 512) :
    Calls Yba.prog 5 #[.int .u8 c, .slice a len cap] w fun e w' => e = .returned (.bool true) ∧ Below w.heap.size w w' := by
  obtain ⟨count, hcount⟩ : ∃ count : Nat, c % 8 + 1 = (count : Int) := ⟨(c % 8 + 1).toNat, by omega⟩
  have hn1 : 1 ≤ count := by omega
  have hn8 : count ≤ 8 := by omega
  have HIN := (show Hid _ from hin)
  have HCO := (show Hid _ from hcount)
  clear hin hcount
  go_enter Yba.func5, Yba.ntmps5
  go_wp2_with fail
  rw [HCO.out]
  refine (newGates_any w count hn8).mono ?_
  rintro e w1 ⟨G, rfl, hgt, hst, hz⟩
  have HP := (show Hid _ from ph1_start hgt hst hz)
  clear hgt hst HCO
  have hmk30 := run_make_row' (P := Yba.prog) 30 36 (.slice none 0 0) 24 Yba.underlying30 info36 rfl .i64 .i64 count (by omega) (by omega)
  rw [made_vals] at hmk30
  have hmk31 := run_make_row' (P := Yba.prog) 31 4 (.bool false) 1 Yba.underlying31 info4 rfl .i64 .i64 count (by omega) (by omega)
  rw [made_vals] at hmk31
  go_wp2
  refine wp_forget (fun W => Ph1 w W w.heap.size G w1.heap.size (w1.heap.size + 1) (w1.heap.size + 1 + 1) count 0 (fun _ => false) (fun _ => []) (fun _ => nilS) (fun _ => nilS)) HP.out ?_
  intro W1 hP1
  clear HP hmk30 hmk31
  generalize w1.heap.size + 1 + 1 = L at hP1 ⊢
  generalize w1.heap.size + 1 = D at hP1 ⊢
  generalize w1.heap.size = E at hP1 hz ⊢
  have HP1 := (show Hid (Ph1 w W1 w.heap.size G E D L count 0 (fun _ => false) (fun _ => []) (fun _ => nilS) (fun _ => nilS)) from hP1)
  clear hP1 hz w1
  go_loopw [34] (fun iv wr => ∃ (idx : Nat) (dr : Nat → Bool) (ex : Nat → List Ent) (hv ev : Nat → Value), idx ≤ len ∧ iv = .int .i64 idx ∧ Ph1 w wr w.heap.size G E D L count idx dr ex hv ev) (fun iv _ => len - (intOf iv).toNat)
  case atStart => exact ⟨0, _, _, _, _, Nat.zero_le _, rfl, HP1.out⟩
  case round =>
    obtain ⟨idx, dr, ex, hv, ev, hidx, rfl, hP⟩ := hrel
    clear HP1
    by_cases hlt : idx < len
    · obtain ⟨o0, o1, r0, r1, b, off, rfl, hbB, k1, k2, k3⟩ := HIN.out idx hlt
      have d1 := (hP.below.cell (p := ⟨b, off + idx * 3, none⟩) hbB).trans k1
      have d2 := (hP.below.cell (p := ⟨b, off + idx * 3 + 1, none⟩) hbB).trans k2
      have d3 := (hP.below.cell (p := ⟨b, off + idx * 3 + 2, none⟩) hbB).trans k3
      have hbr : b < wr.heap.size := Nat.lt_of_lt_of_le hbB hP.size
      obtain ⟨r, hr⟩ : ∃ r : Nat, fr idx % (count : Int) = (r : Int) := ⟨(fr idx % (count : Int)).toNat, by have := Int.emod_nonneg (fr idx) (show (count : Int) ≠ 0 by omega); omega⟩
      have hrc : r < count := by have := Int.emod_lt_of_pos (fr idx) (show (0 : Int) < (count : Int) by omega); omega
      have hri : (r : Int) < (count : Int) := by omega
      have hli : (idx : Int) < (len : Int) := by omega
      have HPH := (show Hid (Ph1 w wr w.heap.size G E D L count idx dr ex hv ev) from hP)
      clear k1 k2 k3 hP
      by_cases hop : fo idx % 4 = 3
      · go_wp2_with fail
        have hP2 := HPH.out.grow ((Below.refl wr.heap.size wr).alloc (Nat.le_refl _) (.cells #[.int .u8 (fo idx), .int .u8 (fr idx), .int .u64 (fN idx)] 34))
        refine (drop_any _ w.heap.size G D count idx r dr (sdL L) _ hv hP2.gt hrc hn8 hP2.size hP2.db.lt).mono ?_
        rintro e w2 ⟨rfl, hg2, hf2⟩
        have hD2 := hf2.d _ hP2.db
        have hE2 : Blk w2 E (vals count ev) 36 := hf2.st.keep _ _ _ hP2.eb (by decide)
        have hDE : E ≠ D := hE2.ne hD2 (by decide)
        have e1 : w2.cell? ⟨D, r, none⟩ = some (.bool (dr r)) := (hD2.cell r).trans (vals_at count _ hrc)
        have e2 : w2.cell? ⟨E, r, none⟩ = some (ev r) := (hE2.cell r).trans (vals_at count _ hrc)
        have e3 := hD2.frozen r
        have e4 := hE2.frozen r
        have HF := (show Hid _ from hP2.dropped hrc hg2 hf2)
        clear hP2 hg2 hf2 hD2 hE2 HPH d1 d2 d3 hbr
        go_wp2
        go_roundw
        case rel => exact ⟨idx + 1, _, _, _, _, by omega, by go_num, HF.out⟩
        case measure => simp [intOf]; omega
      · have hP2 := HPH.out.grow (((Below.refl wr.heap.size wr).alloc (Nat.le_refl _) (.cells #[.int .u8 (fo idx), .int .u8 (fr idx), .int .u64 (fN idx)] 34)).alloc (by simp) (.cells #[.int .i64 idx] 3))
        have hkb : Blk ((wr.alloc (.cells #[.int .u8 (fo idx), .int .u8 (fr idx), .int .u64 (fN idx)] 34)).alloc (.cells #[.int .i64 idx] 3)) (wr.heap.size + 1) #[.int .i64 idx] 3 := by
          have := Blk.new (wr.alloc (.cells #[.int .u8 (fo idx), .int .u8 (fr idx), .int .u64 (fN idx)] 34)) #[.int .i64 idx] 3
          simpa using this
        have hob : Blk ((wr.alloc (.cells #[.int .u8 (fo idx), .int .u8 (fr idx), .int .u64 (fN idx)] 34)).alloc (.cells #[.int .i64 idx] 3)) wr.heap.size #[.int .u8 (fo idx), .int .u8 (fr idx), .int .u64 (fN idx)] 34 := (Blk.new wr _ 34).alloc _
        have HP2 := (show Hid (Ph1 w ((wr.alloc (.cells #[.int .u8 (fo idx), .int .u8 (fr idx), .int .u64 (fN idx)] 34)).alloc (.cells #[.int .i64 idx] 3)) w.heap.size G E D L count idx dr ex hv ev) from hP2)
        have HKB := (show Hid _ from hkb)
        have HOB := (show Hid _ from hob)
        clear hP2 hkb hob HPH
        by_cases hdr : dr r = true
        · go_wp2_with fail
          refine (hold_no _ w.heap.size G D count idx r dr (sdL L) _ hv HP2.out.gt hrc hn8 HP2.out.size hdr (fN idx) _).mono ?_
          rintro e w2 ⟨rfl, hg2, hf2⟩
          have hP3 := (HP2.out.held_no (m := idx) hg2 hf2)
          have e1 : w2.cell? ⟨D, r, none⟩ = some (.bool true) := ((hP3.db.cell r).trans (vals_at count _ hrc)).trans (by simp [boolsV, hdr])
          have HF := (show Hid _ from hP3.next)
          clear hP3 hg2 hf2 HP2 HKB HOB d1 d2 d3 hbr
          go_wp2
          go_roundw
          case rel => exact ⟨idx + 1, _, _, _, _, by omega, by go_num, HF.out⟩
          case measure => simp [intOf]; omega
        · have hdf : dr r = false := by cases h : dr r <;> simp_all
          go_wp2_with fail
          refine (hold_any _ w.heap.size G D count idx r dr (sdL L) _ hv HP2.out.gt hrc hn8 HP2.out.size hdf ⟨fN idx, idx, wr.heap.size + 1⟩ (by omega) (srt_isort _) (fun _ => rfl) L (wr.heap.size + 1) rfl).mono ?_
          rintro e w2 ⟨rfl, ⟨v, hg2⟩, hf2⟩
          have hM := HP2.out.held (x := ⟨fN idx, idx, wr.heap.size + 1⟩) HKB.out hg2 hf2
          have e1 : w2.cell? ⟨D, r, none⟩ = some (.bool false) := ((hM.db.cell r).trans (vals_at count _ hrc)).trans (by simp [boolsV, hdf])
          have e2 : w2.cell? ⟨E, r, none⟩ = some (ev r) := (hM.eb.cell r).trans (vals_at count _ hrc)
          have e3 : w2.cell? ⟨wr.heap.size, 2, none⟩ = some (.int .u64 (fN idx)) := (hf2.keep _ _ _ HOB.out (by decide)).cell 2
          have e4 : w2.cell? ⟨wr.heap.size + 1, 0, none⟩ = some (.int .i64 idx) := (hf2.keep _ _ _ HKB.out (by decide)).cell 0
          have HM := (show Hid _ from hM)
          clear hg2 hf2 HP2 HKB HOB d1 d2 d3 hbr hM
          go_wp2
          obtain ⟨i0, hi, hz0, hz1, hz2⟩ := info_parts info39
          have J1 : Hid (((w2.alloc (.cells #[.int .u64 (fN idx), .int .i64 idx] 39)).drew).ownsRow w.heap.size 39 2 (ev r) (ex r).length (cells2 fn fk (ex r))) := (HM.out.rows r hrc).alloc _
          have J2 : Hid (∀ j u, [Value.int .u64 (fN idx), Value.int .i64 idx][j]? = some u → ((w2.alloc (.cells #[.int .u64 (fN idx), .int .i64 idx] 39)).drew).cell? ((⟨w2.heap.size, 0, none⟩ : Addr).add j) = some u) := World.news_of_block (Blk.new w2 #[.int .u64 (fN idx), .int .i64 idx] 39)
          have J3 : Hid (∀ u ∈ [Value.int .u64 (fN idx), Value.int .i64 idx], u.oneCell' = true) := by intro u hu; simp at hu; rcases hu with rfl | rfl <;> rfl
          have J4 : Hid ((ex r).length + 1 ≤ maxLen) := by have := HM.out.len r hrc; show _ ≤ _; unfold maxLen; omega
          have J5 : Hid (((ex r).length + 1) * 16 ≤ 140737488355328) := by have := HM.out.len r hrc; show _ ≤ _; omega
          have J6 : Hid (w.heap.size ≤ ((w2.alloc (.cells #[.int .u64 (fN idx), .int .i64 idx] 39)).drew).heap.size) := by have := HM.out.size; show w.heap.size ≤ (w2.alloc _).heap.size; simp; omega
          have J7 : Hid (((w2.alloc (.cells #[.int .u64 (fN idx), .int .i64 idx] 39)).drew).heap.size = w2.heap.size + 1) := by show (w2.alloc _).heap.size = _; simp
          have hEw : E < w2.heap.size := HM.out.eb.lt
          go_region_law ((refine step_append_lies _ (by rfl) (.tmp 74) (.tmp 79) 36 (by rfl) w.heap.size 39 i0 (.agg #[.int .u64 0, .int .i64 0]) 2 16 Yba.underlying36 hi hz0 hz1 hz2 rfl (Nat.succ_pos 1) (ev r) (ex r).length (cells2 fn fk (ex r)) (by rfl) J1.out ⟨w2.heap.size, 0, none⟩ 1 1 [.int .u64 (fN idx), .int .i64 idx] (by rfl) rfl J2.out J3.out Nat.one_pos J4.out J5.out J6.out (w2.heap.size + 1) J7.out ?_; intro g cp w3 h1 h2 h3 h4; have hQ := HM.out.done hrc hdf h1 ⟨h2.os, h2.tape, h2.output, h2.size, h2.block⟩ h3; have q1 : w3.cell? ⟨E, r, none⟩ = some (ev r) := (hQ.1.cell r).trans (vals_at count _ hrc); have q2 := hQ.1.frozen r; have HF := (show Hid _ from hQ.2); clear h1 h2 h3 h4 hQ))
          all_goals
            go_wp2
            go_roundw
            case rel => exact ⟨idx + 1, _, _, _, _, by omega, by go_num, HF.out⟩
            case measure => simp [intOf]; omega
    · obtain ⟨V, hVw⟩ : ∃ V, V = wr := ⟨_, rfl⟩
      subst hVw
      obtain ⟨mv, hHf⟩ := hP.half hn8
      have hil : idx ≤ 512 := by omega
      have HH := (show Hid (Half w V G E L count idx ex hv ev mv) from hHf)
      have c9 : V.cell? ⟨L, 0, none⟩ = some (.slice none 0 0) := hHf.lb.cell 0
      clear hP hHf HIN
      go_wp2
      go_loopw [14, 15] (fun ne rv W => ∃ (r : Nat) (lv : Value) (xs : List Int), r ≤ count ∧ rv = .int .i64 r ∧ ne = .int .i64 (nonE r (fun r => isort (ex r)) : Nat) ∧ Ph2 V W L lv xs ∧ xs.length ≤ r * 512) (fun _ rv _ => count - (intOf rv).toNat)
      case atStart => exact ⟨0, nilS, [], Nat.zero_le _, rfl, rfl, Ph2.start HH.out.lb, by simp⟩
      case round =>
        obtain ⟨r, lv, xs, hrc, rfl, rfl, hP2, hxs⟩ := hrel
        obtain ⟨ne, hne⟩ : ∃ ne, ne = nonE r (fun r => isort (ex r)) := ⟨_, rfl⟩
        rw [← hne]
        have hnb : ne ≤ r := by
          rw [hne]
          clear hne hP2 hxs hrc HH c9
          induction r with
          | zero => exact Nat.le_refl _
          | succ r ih => rw [nonE]; split <;> omega
        have HNE := (show Hid (ne = nonE r (fun r => isort (ex r))) from hne)
        have HQ := (show Hid (Ph2 V wr L lv xs) from hP2)
        obtain ⟨kn, dv, hG0⟩ := HH.out.g2
        have hGV := hP2.keep HH.out.lb hG0 (by decide)
        have e1 : wr.cell? ⟨G, 2, none⟩ = some mv := hGV.cell 2
        have hEV := hP2.keep HH.out.lb HH.out.eb (by decide)
        have hGw := hGV.lt
        have HGB := (show Hid (Blk wr G #[.int .u64 4, .slice (some ⟨kn, 0, none⟩) count count, mv, dv] 45) from hGV)
        clear hne hP2 hG0 hGV
        by_cases hlt : r < count
        · have e2 : wr.cell? ⟨E, r, none⟩ = some (ev r) := (hEV.cell r).trans (vals_at count _ hlt)
          have hri : (r : Int) < (count : Int) := by omega
          have hsrow : wr.ownsRow w.heap.size 39 2 (ev r) (ex r).length (cells2 fn fk (ex r)) := own47 (HH.out.rows r hlt) (fun b cs hb => HQ.out.keep HH.out.lb hb (by decide))
          have hle : (ex r).length ≤ 512 := Nat.le_trans (HH.out.le r hlt) hil
          have HS := (show Hid (wr.ownsRow w.heap.size 39 2 (ev r) (ex r).length (cells2 fn fk (ex r))) from hsrow)
          clear hEV hsrow e1
          go_wp2_with fail
          refine (sort_any wr (ex r) (ev r) w.heap.size HS.out (HH.out.nil r hlt) hle).mono ?_
          rintro e W2 ⟨ao, cp, rfl, hso, hsb⟩
          have hP3 := HQ.out.below hsb
          have hG3 : Blk W2 G #[.int .u64 4, .slice (some ⟨kn, 0, none⟩) count count, mv, dv] 45 := (hsb.block G hGw).trans HGB.out
          have e1 : W2.cell? ⟨G, 2, none⟩ = some mv := hG3.cell 2
          have hlk := HH.out.look W2 lv xs hP3 r hlt
          have hhr : W2.ownsRow w.heap.size 47 2 (hv r) (isort (ex r)).length (cells2 fn (sdL L) (isort (ex r))) := own47 (HH.out.held r hlt) (fun b cs hb => hP3.keep HH.out.lb hb (by decide))
          rw [length_isort] at hhr
          obtain ⟨ah, ch, hvr⟩ : ∃ ah ch, hv r = .slice ah (ex r).length ch := by
            rcases hhr.2 with ⟨e, e0⟩ | ⟨g, cap, cur, e, _⟩
            · exact ⟨_, _, by rw [e, e0]⟩
            · exact ⟨_, _, e⟩
          rw [hvr] at hlk hhr
          have HP3 := (show Hid (Ph2 V W2 L lv xs) from hP3)
          have HSO := (show Hid (W2.ownsRow wr.heap.size 39 2 (.slice ao (ex r).length cp) (ex r).length (cells2 fn fk (isort (ex r)))) from hso)
          have HHR := (show Hid (W2.ownsRow w.heap.size 47 2 (.slice ah (ex r).length ch) (ex r).length (cells2 fn (sdL L) (isort (ex r)))) from hhr)
          obtain ⟨n, hn⟩ : ∃ n, n = (ex r).length := ⟨_, rfl⟩
          have HN := (show Hid (n = (ex r).length) from hn)
          rw [← hn] at hlk hle ⊢
          have HVR := (show Hid (hv r = .slice ah n ch) from by rw [hn]; exact hvr)
          clear hP3 hG3 hhr hvr hso hsb HS HQ HGB hn e2
          rw [← HN.out] at HSO HHR
          obtain ⟨Be, HSO⟩ : ∃ Be, Hid (W2.ownsRow Be 39 2 (.slice ao n cp) n (cells2 fn fk (isort (ex r)))) := ⟨_, HSO⟩
          by_cases hn0 : n = 0
          · subst hn0
            have hE0 : (isort (ex r)).isEmpty = true := by
              have : (isort (ex r)).length = 0 := by rw [length_isort]; exact HN.out.symm
              cases h : isort (ex r) with
              | nil => rfl
              | cons a t => rw [h] at this; simp at this
            have HE0 : Hid (nonE (r + 1) (fun r => isort (ex r)) = ne) := by show _ = _; rw [nonE, hE0, HNE.out]; rfl
            clear hE0 HNE
            go_wp2
            refine wp_loop_rounds 1 ?_
            rw [rounds_succ]
            go_wp2
            go_roundw
            case rel => exact ⟨r + 1, lv, xs, by omega, by go_num, by rw [HE0.out], HP3.out, by omega⟩
            case measure => simp [intOf]; omega
          · have hnp : (0 : Int) < (n : Int) := by omega
            have hnp' : 0 < n := by omega
            have hnp2 : decide (0 < n) = true := decide_eq_true hnp'
            obtain ⟨gh, hgh⟩ : ∃ gh, ah = some ⟨gh, 0, none⟩ := by
              rcases HHR.out.2 with ⟨e, e0⟩ | ⟨g, cap, cur, e, _⟩
              · omega
              · simp only [Value.slice.injEq] at e; exact ⟨g, e.1⟩
            obtain ⟨ge, hge⟩ : ∃ ge, ao = some ⟨ge, 0, none⟩ := by
              rcases HSO.out.2 with ⟨e, e0⟩ | ⟨g, cap, cur, e, _⟩
              · omega
              · simp only [Value.slice.injEq] at e; exact ⟨g, e.1⟩
            subst hgh
            subst hge
            have HE1 : Hid (nonE (r + 1) (fun r => isort (ex r)) = ne + 1) := by
              have hE0 : (isort (ex r)).isEmpty = false := by
                have : (isort (ex r)).length = n := by rw [length_isort]; exact HN.out.symm
                cases h : isort (ex r) with
                | nil => rw [h] at this; simp at this; omega
                | cons a t => rfl
              show _ = _
              rw [nonE, hE0, HNE.out]; rfl
            clear HNE HHR
            go_wp2
            go_loopw [18] (fun jv W => ∃ (j : Nat) (lu : Value) (ys : List Int), j ≤ n ∧ jv = .int .i64 j ∧ Ph2 V W L lu ys ∧ ys.length ≤ r * 512 + j ∧ W.ownsRow Be 39 2 (.slice (some ⟨ge, 0, none⟩) n cp) n (cells2 fn fk (isort (ex r)))) (fun jv _ => n - (intOf jv).toNat)
            case atStart => exact ⟨0, lv, xs, by omega, rfl, HP3.out, by omega, HSO.out⟩
            case round =>
              obtain ⟨j, lu, ys, hjn, rfl, hQ2, hys, hse⟩ := hrel
              clear HP3 HSO hlk e1
              by_cases hj : j < n
              · have hzl : (isort (ex r)).length = n := by rw [length_isort]; exact HN.out.symm
                obtain ⟨x, hx⟩ : ∃ x, (isort (ex r))[j]'(by omega) = x := ⟨_, rfl⟩
                have hxm : x ∈ ex r := by rw [← mem_isort, ← hx]; exact List.getElem_mem _
                have hhr : wr.ownsRow w.heap.size 47 2 (.slice (some ⟨gh, 0, none⟩) n ch) n (cells2 fn (sdL L) (isort (ex r))) := by
                  have := own47 (HH.out.held r hlt) (fun b cs hb => hQ2.keep HH.out.lb hb (by decide))
                  rw [length_isort, HVR.out, ← HN.out] at this
                  exact this
                have k1 : wr.cell? ⟨gh, j * 2, none⟩ = some (.int .u64 x.n) := by rw [hhr.cellAt (j * 2) (by omega), cells2_fst _ _ _ j (by omega), hx]; rfl
                have k2 : wr.cell? ⟨gh, j * 2 + 1, none⟩ = some (.func (.func 11) #[] #[.pointer (some ⟨L, 0, none⟩), .pointer (some ⟨x.q, 0, none⟩)]) := by rw [hhr.cellAt (j * 2 + 1) (by omega), cells2_snd _ _ _ j (by omega), hx]; rfl
                have k3 : wr.cell? ⟨ge, j * 2, none⟩ = some (.int .u64 x.n) := by rw [hse.cellAt (j * 2) (by omega), cells2_fst _ _ _ j (by omega), hx]; rfl
                have k4 : wr.cell? ⟨ge, j * 2 + 1, none⟩ = some (.int .i64 x.k) := by rw [hse.cellAt (j * 2 + 1) (by omega), cells2_snd _ _ _ j (by omega), hx]; rfl
                have hji : (j : Int) < (n : Int) := by omega
                have hj0 : (0 : Int) ≤ (j : Int) := by omega
                have HQ2 := (show Hid (Ph2 V wr L lu ys) from hQ2)
                have HSE := (show Hid (wr.ownsRow Be 39 2 (.slice (some ⟨ge, 0, none⟩) n cp) n (cells2 fn fk (isort (ex r)))) from hse)
                have HQB := (show Hid (Blk wr x.q #[.int .i64 x.k] 3) from hQ2.keep HH.out.lb (HH.out.ks r hlt x hxm) (by decide))
                have HX : Hid ((isort (ex r))[j]? = some x) := by show _ = _; rw [List.getElem?_eq_getElem (by omega), hx]
                clear hQ2 hse hhr hx hxm hzl
                have hfq := fneq
                go_wp2
                go_quiet (fail)
                go_wp2_with fail
                refine (send_any V _ L x.q lu ys x.k (HQ2.out.drewN _) HH.out.lb.lt HQB.out (by omega)).mono ?_
                rintro e W5 ⟨rfl, g5, c5, hP5, hk5, hc5⟩
                have hse5 : W5.ownsRow Be 39 2 (.slice (some ⟨ge, 0, none⟩) n cp) n (cells2 fn fk (isort (ex r))) := own47 HSE.out (fun b cs hb => hk5 b cs 39 hb (by decide) (by decide))
                have hzl : (isort (ex r)).length = n := by rw [length_isort]; exact HN.out.symm
                have hx : (isort (ex r))[j]'(by omega) = x := by have := HX.out; rw [List.getElem?_eq_getElem (by omega)] at this; exact Option.some.inj this
                have m4 : W5.cell? ⟨ge, j * 2 + 1, none⟩ = some (.int .i64 x.k) := by rw [hse5.cellAt (j * 2 + 1) (by omega), cells2_snd _ _ _ j (by omega), hx]; rfl
                have m9 : W5.cell? ⟨L, 0, none⟩ = some (.slice (some ⟨g5, 0, none⟩) (ys.length + 1) c5) := hP5.lb.cell 0
                have HP5 := (show Hid (Ph2 V W5 L (.slice (some ⟨g5, 0, none⟩) (ys.length + 1) c5) (ys ++ [x.k])) from hP5)
                have HSE5 := (show Hid (W5.ownsRow Be 39 2 (.slice (some ⟨ge, 0, none⟩) n cp) n (cells2 fn fk (isort (ex r)))) from hse5)
                obtain ⟨yl, hyl⟩ : ∃ yl, yl = ys.length := ⟨_, rfl⟩
                have HYL := (show Hid (yl = ys.length) from hyl)
                rw [← hyl] at m9 hc5 hys
                have hyb : yl ≤ 100000 := by omega
                clear hP5 hk5 hse5 hzl hx k1 k2 k3 k4 HQ2 HSE HQB HX hyl
                have hy1 : (yl : Int) < (yl : Int) + 1 := by omega
                have hy2 : ((yl : Int) + 1 == 0) = false := by simp; omega
                go_wp2
                go_quiet (fail)
                go_wp2
                go_roundw
                case rel =>
                  have hR := (show Hid (∃ (j' : Nat) (lu : Value) (ys' : List Int), j' ≤ n ∧ Value.int .i64 ((j : Int) + 1) = .int .i64 j' ∧ Ph2 V (W5.drewN nq) L lu ys' ∧ ys'.length ≤ r * 512 + j' ∧ (W5.drewN nq).ownsRow Be 39 2 (.slice (some ⟨ge, 0, none⟩) n cp) n (cells2 fn fk (isort (ex r)))) from ⟨j + 1, _, _, by omega, by go_num, HP5.out.drewN _, by have := HYL.out; simp; omega, HSE5.out⟩)
                  go_light
                  first | exact hR.out | ((repeat apply Exists.intro); exact ⟨hR.out, rfl⟩)
                case measure => simp [intOf]; omega
              · have hjn' : j = n := by omega
                subst hjn'
                have HQ2 := (show Hid (Ph2 V wr L lu ys) from hQ2)
                clear hQ2 hse HVR
                go_wp2
                go_roundw
                case rel => exact ⟨r + 1, lu, ys, by omega, by go_num, by rw [HE1.out]; go_num, HQ2.out, by omega⟩
                case measure => simp [intOf]; omega
        · have hrc' : r = count := by omega
          have hln := HH.out.len wr lv xs HQ.out
          have HLN : Hid (∀ ty, (Builtin.len_ #[43] ty #[mv]).run Yba.prog wr = .ok (.int .i64 ne) wr) := by
            intro ty
            rw [hln ty, HNE.out, hrc']
          clear hln HGB hEV
          go_wp2_with (at_len; refine wpList_len_is rfl _ rfl mv rfl ne HLN.out ?_)
          go_wp2
          go_ret
          exact ⟨rfl, HQ.out.fin HH.out.below HH.out.size HH.out.bL⟩

end Go.Proofs.Ybulktbi
