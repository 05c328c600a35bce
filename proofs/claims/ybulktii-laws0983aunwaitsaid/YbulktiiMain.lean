/-
  Seat b0983a, LawS0983AUnwait: the walk (function 3).
-/
import Derived.Test.YbulktiiParts
import Derived.Deep.OwnRows
import Derived.Deep.AppendLies
import Derived.Deep.RegionLaw
import Derived.Deep.QuietTactic
import Derived.BigQuiet
import Derived.BigRegion
import Derived.Deep.Light
set_option maxRecDepth 100000
namespace Go.Proofs.Ybulktii
open Go.Shelf Go.RowKit Go.Lib Go.Sort
set_option linter.unusedVariables false
set_option linter.unusedSimpArgs false

theorem wp_forget {P : Program} {c : Code} {Q : Exit → Act → World → Prop} {a : Act} {w : World} (Φ : World → Prop) (hΦ : Φ w) (h : ∀ W, Φ W → c.wp P Q a W) : c.wp P Q a w := h w hΦ

/-- The line that came in. -/
def LineIn (w : World) (B : Nat) (a : Option Addr) (len : Nat) (z : Nat → Int) : Prop :=
  ∀ j, j < len → 0 ≤ z j ∧ z j ≤ 255 ∧ ∃ x, a = some x ∧ x.block < B ∧ w.cell? (x.add j) = some (.int .u8 (z j))

theorem add_block (x : Addr) (i : Nat) : (x.add i).block = x.block := by unfold Addr.add; split <;> rfl

def zero30 : Array Value := #[.pointer none, .chan none, .int .i64 0, .int .i64 0, .int .i64 0, .int .i64 0, .pointer none, .bool false, .bool false, .nilIface]
def pool0 (j : Nat) : Value := zero30[j % 10]!
theorem zeroValue31 (w : World) : (zeroValue 31).run Yba.prog w = .ok (.agg (vals 80 pool0)) w := by kernel_rfl

theorem main_long (a0 : Option Addr) (len cap : Nat) (a1 a2 : Int) (w : World) (hlen : 1024 < len) (hm : len ≤ maxLen) :
    Calls Yba.prog 3 #[.slice a0 len cap, .int .u8 a1, .int .u8 a2] w fun e w' => e = .returned (.bool true) ∧ Below w.heap.size w w' := by
  unfold maxLen at hm
  go_enter Yba.func3, Yba.ntmps3
  go_wp2
  go_ret
  exact ⟨rfl, Below.refl _ _⟩

abbrev FL (a : Int) (i : Nat) : Bool := bits BinOp.and IntKind.u8 (a / 2 ^ i) 1 == 1
def kOf (z : Nat → Int) (j : Nat) : Nat := (z j % 8).toNat
def ksOf (z : Nat → Int) (len : Nat) : List Nat := (List.range len).map (kOf z)
theorem ksOf_length (z : Nat → Int) (len : Nat) : (ksOf z len).length = len := by simp [ksOf]
theorem ksOf_at (z : Nat → Int) (len : Nat) {j : Nat} (h : j < len) : (ksOf z len)[j]! = kOf z j := by
  rw [getElem!_pos _ j (by rw [ksOf_length]; exact h)]
  simp [ksOf]
theorem kOf_lt (z : Nat → Int) (j : Nat) : kOf z j < 8 := by unfold kOf; omega
theorem kOf_int (z : Nat → Int) (j : Nat) : z j % 8 = (kOf z j : Int) := by unfold kOf; omega
theorem keep_succ (was : Bool) (t : Nat) (z : Nat → Int) (i : Nat) : keep was t (ksOf z (i + 1)) = keep was t (ksOf z i) ++ (if was = true ∧ kOf z i = t then [] else [kOf z i]) := by
  unfold keep ksOf
  rw [List.range_succ, List.map_append]
  cases was
  · simp
  · by_cases e : kOf z i = t <;> simp [e]
theorem keep_le (was : Bool) (t : Nat) (ks : List Nat) : (keep was t ks).length ≤ ks.length := by
  unfold keep
  split
  · exact List.length_filter_le _ _
  · exact Nat.le_refl _
theorem keep_mem (was : Bool) (t : Nat) (z : Nat → Int) (len : Nat) : ∀ k ∈ keep was t (ksOf z len), k < 8 := by
  intro k hk
  have : k ∈ ksOf z len := by
    unfold keep at hk
    split at hk
    · exact (List.mem_filter.1 hk).1
    · exact hk
  simp [ksOf] at this
  obtain ⟨a, _, rfl⟩ := this
  exact kOf_lt z a

theorem info34 : (Yba.prog.info? 34).map (fun i => (i.zero, i.size, i.bytes)) = some (some (.pointer none), 1, 8) := by kernel_rfl
theorem info3 : (Yba.prog.info? 3).map (fun i => (i.zero, i.size, i.bytes)) = some (some (.int .i64 0), 1, 8) := by kernel_rfl

/-- Behind the first loop. -/
structure St1 (w wr : World) (pb : Nat) (f : Nat → Value) (a1 : Int) (i : Nat) : Prop where
  pool : Blk wr pb (vals 80 f) 31
  below : Below w.heap.size w wr
  size : w.heap.size ≤ wr.heap.size
  fl : ∀ j, j < 8 → f (j * 10 + 7) = .bool (if j < i then FL a1 j else false)

structure St2 (w wr : World) (pb wb len : Nat) (f g : Nat → Value) (a1 : Int) (z : Nat → Int) (i : Nat) : Prop where
  s1 : St1 w wr pb f a1 8
  row : Blk wr wb (vals len g) 34
  bw : w.heap.size ≤ wb
  el : ∀ j, j < i → g j = pt pb (kOf z j)

theorem setCell_size (w : World) (a : Addr) (v : Value) : (w.setCell a v).heap.size = w.heap.size := by simp [World.setCell]

theorem St1.start (w : World) (a1 : Int) : St1 w (w.alloc (.cells (vals 80 pool0) 31)) w.heap.size pool0 a1 0 := by
  refine ⟨Blk.new w _ 31, (Below.refl _ w).alloc (Nat.le_refl _) _, by simp, fun j hj => ?_⟩
  have : (j * 10 + 7) % 10 = 7 := by omega
  simp [pool0, this, zero30]

theorem St1.step {w wr : World} {pb : Nat} {f : Nat → Value} {a1 : Int} {i : Nat} (h : St1 w wr pb f a1 i) (hb : w.heap.size ≤ pb) (hi : i < 8) : St1 w (wr.setCell ⟨pb, i * 10 + 7, none⟩ (.bool (FL a1 i))) pb (upd f (i * 10 + 7) (.bool (FL a1 i))) a1 (i + 1) := by
  refine ⟨h.pool.set _ _, h.below.setCell (p := ⟨pb, i * 10 + 7, none⟩) hb _, by rw [setCell_size]; exact h.size, fun j hj => ?_⟩
  by_cases e : j = i
  · subst e
    rw [upd_same]
    simp
  · rw [upd_other _ _ (by omega), h.fl j hj]
    have : (j < i + 1) ↔ j < i := by omega
    simp [this]

theorem St2.start {w wr : World} {pb len : Nat} {f : Nat → Value} {a1 : Int} (z : Nat → Int) (h : St1 w wr pb f a1 8) : St2 w (wr.alloc (.cells (vals len fun _ => .pointer none) 34)) pb wr.heap.size len f (fun _ => .pointer none) a1 z 0 :=
  ⟨⟨h.pool.alloc _, h.below.alloc h.size _, by have := h.size; simp; omega, h.fl⟩, Blk.new wr _ 34, h.size, fun j hj => absurd hj (Nat.not_lt_zero _)⟩

theorem St2.step {w wr : World} {pb wb len : Nat} {f g : Nat → Value} {a1 : Int} {z : Nat → Int} {i : Nat} (h : St2 w wr pb wb len f g a1 z i) : St2 w (wr.setCell ⟨wb, i, none⟩ (.pointer (some ⟨pb, kOf z i * 10, none⟩))) pb wb len f (upd g i (.pointer (some ⟨pb, kOf z i * 10, none⟩))) a1 z (i + 1) := by
  have hne : pb ≠ wb := h.s1.pool.ne h.row (by decide)
  refine ⟨⟨h.s1.pool.setOther hne _ _, h.s1.below.setCell (p := ⟨wb, i, none⟩) h.bw _, by rw [setCell_size]; exact h.s1.size, h.s1.fl⟩, h.row.set _ _, h.bw, fun j hj => ?_⟩
  by_cases e : j = i
  · subst e
    rw [upd_same]
    rfl
  · rw [upd_other _ _ e, h.el j (by omega)]

abbrev chn (wb n : Nat) : Array Value := #[.pointer none, .string { data := #[] }, .pointer none, .slice none 0 0, .slice none 0 0, .map none, .map none, .slice (some ⟨wb, 0, none⟩) n n, .slice none 0 0, .slice none 0 0, .pointer none, .int .u64 0, .int .i64 0, .pointer none]
theorem chn_vals (wb n : Nat) : chn wb n = vals 14 (fun j => (chn wb n)[j]!) := rfl

theorem St2.mem {w wr : World} {pb wb len : Nat} {f g : Nat → Value} {a1 : Int} {z : Nat → Int} (h : St2 w wr pb wb len f g a1 z len) (hb : w.heap.size ≤ pb) :
    Mem (wr.alloc (.cells (chn wb len) 51)) w.heap.size pb wr.heap.size wb (ksOf z len).length f (ksOf z len) ∧ Below w.heap.size w (wr.alloc (.cells (chn wb len) 51)) ∧ w.heap.size ≤ (wr.alloc (.cells (chn wb len) 51)).heap.size := by
  refine ⟨?_, h.s1.below.alloc h.s1.size _, by have := h.s1.size; simp; omega⟩
  have hc : Blk (wr.alloc (.cells (chn wb len) 51)) wr.heap.size (vals 14 (fun j => (chn wb len)[j]!)) 51 := by rw [← chn_vals]; exact Blk.new wr (chn wb len) 51
  have hp := h.s1.pool.alloc (.cells (chn wb len) 51)
  have hr := h.row.alloc (.cells (chn wb len) 51)
  rw [ksOf_length]
  refine ⟨hb, h.s1.size, h.bw, hp, ⟨_, hc, by rw [ksOf_length]; rfl⟩, ⟨g, hr, fun j hj => ?_⟩⟩
  rw [ksOf_length] at hj
  rw [ksOf_at z len hj, h.el j hj]

/-- The list that is wanted, as it grows in memory of its own. -/
structure St3 (V wr : World) (g3 c3 : Nat) (L : List Nat) : Prop where
  own : wr.ownsRow V.heap.size 3 1 (.slice (some ⟨g3, 0, none⟩) L.length c3) L.length (L.map fun (k : Nat) => Value.int .i64 k)
  below : Below V.heap.size V wr
  size : V.heap.size ≤ wr.heap.size

theorem St3.start (V : World) (n : Nat) (hn : n ≤ 1024) : St3 V (V.alloc (.cells (vals n fun _ => .int .i64 0) 3)) V.heap.size n [] := by
  refine ⟨⟨rfl, .inr ⟨V.heap.size, n, _, rfl, Nat.le_refl _, Blk.new V _ 3, Nat.zero_le _, by unfold maxLen; omega, by rw [vals_size]; omega, by simp⟩⟩, (Below.refl _ V).alloc (Nat.le_refl _) _, by simp⟩

theorem St3.step {V wr w3 : World} {g3 c3 g cap k : Nat} {L : List Nat} (h : St3 V wr g3 c3 L) (hown : w3.ownsRow V.heap.size 3 1 (.slice (some ⟨g, 0, none⟩) (L.length + 1) cap) (L.length + 1) ((L.map fun (k : Nat) => Value.int .i64 k) ++ [.int .i64 k]))
    (hg : (wr.alloc (.cells #[.int .i64 k] 3)).grownBy w3 (Value.slice (some ⟨g3, 0, none⟩) L.length c3).ownBlock) : St3 V w3 g cap (L ++ [k]) := by
  have ho := h.own.alloc (.cells #[.int .i64 k] 3)
  have hz : V.heap.size ≤ (wr.alloc (.cells #[.int .i64 k] 3)).heap.size := by have := h.size; simp; omega
  refine ⟨by simpa using hown, (h.below.alloc h.size _).grown hg hz (fun b hb => (ho.lt b hb).1), Nat.le_trans hz hg.size⟩

theorem make53 (n : Nat) (hn : n ≤ 1024) (w : World) : (Instr.makeSlice 53 (.int .i64 0) (.int .i64 (n : Int))).run Yba.prog w = .ok (.slice (some ⟨w.heap.size, 0, none⟩) 0 n) (w.alloc (.cells (vals n fun _ => .int .i64 0) 3)) := by
  obtain ⟨i0, hi, hz0, hz1, hz2⟩ := info_parts info3
  have := run_make (P := Yba.prog) w 53 3 i0 (.int .i64 0) Yba.underlying53 hi hz0 .i64 .i64 0 n (by omega) (by omega) (by rw [hz2]; omega) (by omega)
  rw [hz1] at this
  simp only [Int.toNat_natCast, Nat.mul_one, Int.toNat_zero] at this
  rw [← made_vals]
  exact this

/-- Behind the third loop: all that is read from there on. -/
structure St4 (w W : World) (pb cb wb g3 n : Nat) (f : Nat → Value) (L : List Nat) : Prop where
  pool : Blk W pb (vals 80 f) 31
  ch : W.cell? ⟨cb, 7, none⟩ = some (.slice (some ⟨wb, 0, none⟩) L.length n)
  row : ∀ q, q < L.length → W.cell? ⟨wb, q, none⟩ = some (.pointer (some ⟨pb, L[q]! * 10, none⟩))
  want : ∀ q, q < L.length → W.cell? ⟨g3, q, none⟩ = some (.int .i64 (L[q]! : Nat))
  below : Below w.heap.size w W
  le : ∀ q, q < L.length → L[q]! < 8

theorem St4.drewN {w W : World} {pb cb wb g3 n : Nat} {f : Nat → Value} {L : List Nat} (h : St4 w W pb cb wb g3 n f L) (m : Nat) : St4 w (W.drewN m) pb cb wb g3 n f L :=
  ⟨h.pool, h.ch, h.row, h.want, below_drewN h.below m, h.le⟩

theorem St4.start {w V wr : World} {pb cb wb g3 c3 n t : Nat} {f : Nat → Value} {was : Bool} {z : Nat → Int} (hm : Mem V w.heap.size pb cb wb n f (keep was t (ksOf z n))) (hs : St3 V wr g3 c3 (keep was t (ksOf z n))) (hb : Below w.heap.size w V) (hz : w.heap.size ≤ V.heap.size) :
    St4 w wr pb cb wb g3 n f (keep was t (ksOf z n)) := by
  obtain ⟨bp, bc, bw, hp, ⟨h, hc, h7⟩, ⟨g, hw, hg⟩⟩ := hm
  have hk : ∀ b cs t, Blk V b cs t → Blk wr b cs t := fun b cs t hx => (hs.below.block b hx.lt).trans hx
  have hle : (keep was t (ksOf z n)).length ≤ n := by have := keep_le was t (ksOf z n); rwa [ksOf_length] at this
  refine ⟨hk _ _ _ hp, ?_, fun q hq => ?_, fun q hq => ?_, hb.trans (hs.below.mono hz), fun q hq => ?_⟩
  · rw [(hk _ _ _ hc).at (show 7 < 14 by omega), h7]
  · rw [(hk _ _ _ hw).at (show q < n by omega), hg q hq]
    rfl
  · have := hs.own.cellAt q (by omega)
    rw [this, List.getElem?_map, List.getElem?_eq_getElem hq, getElem!_pos _ q hq]
    rfl
  · rw [getElem!_pos _ q hq]
    exact keep_mem was t z n _ (List.getElem_mem _)

set_option maxHeartbeats 4000000 in
set_option maxRecDepth 1000000 in
theorem main_short (a0 : Option Addr) (len cap : Nat) (a1 a2 : Int) (z : Nat → Int) (w : World) (hin : LineIn w w.heap.size a0 len z) (h10 : 0 ≤ a1) (h11 : a1 ≤ 255) (h20 : 0 ≤ a2) (h21 : a2 ≤ 255) (hlen : len ≤ 1024) :
    Calls Yba.prog 3 #[.slice a0 len cap, .int .u8 a1, .int .u8 a2] w fun e w' => e = .returned (.bool true) ∧ Below w.heap.size w w' := by
  have HIN := (show Hid _ from hin)
  clear hin
  have z31 := zeroValue31
  have HP := (show Hid _ from St1.start w a1)
  generalize vals 80 pool0 = pv at z31 HP
  go_enter Yba.func3, Yba.ntmps3
  go_wp2
  obtain ⟨pb, hpb⟩ : ∃ pb, pb = w.heap.size := ⟨_, rfl⟩
  have hpl : w.heap.size ≤ pb := by omega
  have HP1 : Hid (St1 w (w.alloc (.cells pv 31)) pb pool0 a1 0) := by rw [hpb]; exact HP
  rw [← hpb]
  clear HP z31 hpb
  go_loopw [8] (fun iv wr => ∃ (i : Nat) (f : Nat → Value), i ≤ 8 ∧ iv = .int .i64 i ∧ St1 w wr pb f a1 i) (fun iv _ => 8 - (intOf iv).toNat)
  case atStart => exact ⟨0, _, by omega, rfl, HP1.out⟩
  case round =>
    obtain ⟨i, f, hi, rfl, hS⟩ := hrel
    clear HP1 pv
    by_cases hlt : i < 8
    · have c1 := hS.pool.at (show i * 10 + 7 < 80 by omega)
      have c2 := hS.pool.frozen (i * 10 + 7)
      rw [hS.fl i hlt] at c1
      have hii : (i : Int) < 8 := by omega
      have HS := (show Hid _ from hS.step hpl hlt)
      clear hS
      go_wp2
      go_roundw
      case rel => exact ⟨i + 1, _, by omega, by go_num, HS.out⟩
      case measure => simp [intOf]; omega
    · have h8 : i = 8 := by omega
      subst h8
      have hmk := run_make_row' (P := Yba.prog) 33 34 (.pointer none) 8 Yba.underlying33 info34 rfl .i64 .i64 len (by omega) (by omega)
      rw [made_vals] at hmk
      have HS := (show Hid _ from St2.start (len := len) z hS)
      clear hS
      go_wp2
      refine wp_forget (fun W => St2 w W pb wr.heap.size len f (fun _ => .pointer none) a1 z 0) HS.out ?_
      intro W1 hS1
      generalize wr.heap.size = wb at hS1 ⊢
      have HS1 := (show Hid (St2 w W1 pb wb len f (fun _ => .pointer none) a1 z 0) from hS1)
      clear hS1 HS hmk wr
      go_loopw [10] (fun iv W => ∃ (i : Nat) (g : Nat → Value), i ≤ len ∧ iv = .int .i64 i ∧ St2 w W pb wb len f g a1 z i) (fun iv _ => len - (intOf iv).toNat)
      case atStart => exact ⟨0, _, Nat.zero_le _, rfl, HS1.out⟩
      case round =>
        obtain ⟨i, g, hi2, rfl, hS⟩ := hrel
        clear HS1
        by_cases hlt2 : i < len
        · obtain ⟨z0, z1, x, rfl, hxB, k1⟩ := HIN.out i hlt2
          have d1 := (hS.s1.below.cell (p := x.add i) (by rw [add_block]; exact hxB)).trans k1
          have hki := kOf_int z i
          have hk8 := kOf_lt z i
          have hk8i : (kOf z i : Int) < 8 := by omega
          have hii : (i : Int) < (len : Int) := by omega
          have c1 := hS.row.at hlt2
          have c2 := hS.row.frozen i
          have HS := (show Hid _ from hS.step)
          generalize kOf z i = k at hki hk8 hk8i HS
          clear hS k1
          go_wp2
          go_roundw
          case rel => exact ⟨i + 1, _, by omega, by go_num, HS.out⟩
          case measure => simp [intOf]; omega
        · have hl : i = len := by omega
          subst hl
          obtain ⟨t, ht⟩ : ∃ t : Nat, a2 % 8 = (t : Int) := ⟨(a2 % 8).toNat, by omega⟩
          have ht8 : t < 8 := by omega
          have ht8i : (t : Int) < 8 := by omega
          obtain ⟨hM, hB, hsz⟩ := hS.mem hpl
          have c1 := hM.pool.at (show t * 10 + 7 < 80 by omega)
          have hft := hS.s1.fl t ht8
          rw [if_pos ht8] at hft
          rw [hft] at c1
          have HM := (show Hid (Mem (wr.alloc (.cells (chn wb i) 51)) w.heap.size pb wr.heap.size wb (ksOf z i).length f (ksOf z i)) from hM)
          have HB := (show Hid (Below w.heap.size w (wr.alloc (.cells (chn wb i) 51)) ∧ w.heap.size ≤ (wr.alloc (.cells (chn wb i) 51)).heap.size) from ⟨hB, hsz⟩)
          have HF := (show Hid (∀ j, j < 8 → f (j * 10 + 7) = .bool (if j < 8 then FL a1 j else false)) from hS.s1.fl)
          have HFT := (show Hid _ from hft)
          clear hS hM hft hB hsz
          go_wp2_with fail
          rw [ht]
          refine (unwait_any _ w.heap.size pb wr.heap.size wb t (ksOf z i) f _ HM.out ht8 HFT.out (by rw [ksOf_length]; exact hlen) HB.out.2).mono ?_
          rintro e V ⟨rfl, hBV, hMV⟩
          rw [ksOf_length] at hMV
          have hBw := HB.out.1.trans hBV
          have hzV : w.heap.size ≤ V.heap.size := Nat.le_trans HB.out.2 hBV.size
          obtain ⟨cb, hcb⟩ : ∃ cb, cb = wr.heap.size := ⟨_, rfl⟩
          rw [← hcb] at hMV ⊢
          have HMV := (show Hid (Mem V w.heap.size pb cb wb i (upd f (t * 10 + 7) (.bool false)) (keep (FL a1 t) t (ksOf z i))) from hMV)
          have HBW := (show Hid (Below w.heap.size w V ∧ w.heap.size ≤ V.heap.size) from ⟨hBw, hzV⟩)
          clear hMV hBV hBw hzV HM HB c1 hcb HFT
          clear wr
          generalize hwas : FL a1 t = was at HMV ⊢
          have HWAS := (show Hid (FL a1 t = was) from hwas)
          clear hwas
          have hmk := make53 i hlen
          have HS3 := (show Hid _ from St3.start V i hlen)
          go_wp2
          refine wp_forget (fun W => St3 V W V.heap.size i []) HS3.out ?_
          intro W3 hS3
          generalize hg0 : V.heap.size = g0
          rw [hg0] at hS3
          clear HS3 hmk hg0
          have HS3 := (show Hid (St3 V W3 g0 i []) from hS3)
          clear hS3
          go_loopw [15, 16] (fun wv iv W => ∃ (j g3 c3 : Nat), j ≤ i ∧ iv = .int .i64 j ∧ wv = .slice (some ⟨g3, 0, none⟩) (keep was t (ksOf z j)).length c3 ∧ St3 V W g3 c3 (keep was t (ksOf z j))) (fun _ iv _ => i - (intOf iv).toNat)
          case atStart => exact ⟨0, g0, i, Nat.zero_le _, rfl, by unfold keep; split <;> rfl, by unfold keep; split <;> exact HS3.out⟩
          case round =>
            obtain ⟨j, g3, c3, hj, rfl, rfl, hS⟩ := hrel
            clear HS3
            by_cases hlt3 : j < i
            · obtain ⟨z0, z1, x, rfl, hxB, k1⟩ := HIN.out j hlt3
              have d1 := ((hS.below.cell (p := x.add j) (by rw [add_block]; exact Nat.lt_of_lt_of_le hxB HBW.out.2)).trans (HBW.out.1.cell (p := x.add j) (by rw [add_block]; exact hxB))).trans k1
              have hki := kOf_int z j
              have hk8 := kOf_lt z j
              have hks := keep_succ was t z j
              have hLl : (keep was t (ksOf z j)).length ≤ 1024 := Nat.le_trans (keep_le _ _ _) (by rw [ksOf_length]; omega)
              have hji : (j : Int) < (i : Int) := by omega
              have HS := (show Hid (St3 V wr g3 c3 (keep was t (ksOf z j))) from hS)
              have hVs := hS.size
              clear hS k1
              by_cases hsk : was = true ∧ kOf z j = t
              · rw [if_pos hsk, List.append_nil] at hks
                obtain ⟨rfl, hkt⟩ := hsk
                rw [hkt] at hki
                have HKS := (show Hid _ from hks)
                clear hks hk8 hkt
                generalize keep true t (ksOf z j) = L at HS HKS hLl
                go_wp2
                go_roundw
                case rel => exact ⟨j + 1, g3, c3, by omega, by go_num, by rw [HKS.out], by rw [HKS.out]; exact HS.out⟩
                case measure => simp [intOf]; omega
              · rw [if_neg hsk] at hks
                have HKS := (show Hid _ from hks)
                clear hks
                have hc : (was = false) ∨ (was = true ∧ ¬ ((kOf z j : Nat) : Int) = (t : Int)) := by
                  cases was
                  · exact .inl rfl
                  · refine .inr ⟨rfl, fun e => hsk ⟨rfl, by omega⟩⟩
                clear hsk
                generalize kOf z j = k at hki hk8 HKS hc
                generalize keep was t (ksOf z j) = L at HS HKS hLl
                obtain ⟨i0, hi0, hz0, hz1, hz2⟩ := info_parts info3
                rcases hc with rfl | ⟨rfl, hne⟩
                all_goals
                  go_wp2_with (at_builtin; go_must (refine wpList_append_lies _ rfl _ _ 53 rfl V.heap.size 3 i0 (.int .i64 0) 1 8 Yba.underlying53 hi0 hz0 hz1 hz2 rfl Nat.one_pos (.slice (some ⟨g3, 0, none⟩) L.length c3) L.length (L.map fun (k : Nat) => Value.int .i64 k) rfl ?hown ⟨wr.heap.size, 0, none⟩ 1 1 [.int .i64 k] rfl rfl ?hnews ?hone Nat.one_pos ?h63 ?hby ?hbase (wr.heap.size + 1) ?hH ?_))
                  case hown => exact HS.out.own.alloc _
                  case hnews => exact World.news_of_block (Blk.new wr #[.int .i64 k] 3)
                  case hone => intro u hu; simp at hu; subst hu; rfl
                  case h63 => unfold maxLen; omega
                  case hby => omega
                  case hbase => simp; omega
                  case hH => simp
                  intro g cap' w3 hown hgrow hat hlt'
                  have HF := (show Hid _ from HS.out.step hown hgrow)
                  clear hown hgrow hat hlt' HS
                  go_wp2
                  go_roundw
                  case rel => exact ⟨j + 1, g, cap', by omega, by go_num, by rw [HKS.out]; simp, by rw [HKS.out]; exact HF.out⟩
                  case measure => simp [intOf]; omega
            · have hl : j = i := by omega
              subst hl
              have h4 := St4.start HMV.out hS HBW.out.1 HBW.out.2
              have hLl : (keep was t (ksOf z j)).length ≤ 1024 := Nat.le_trans (keep_le _ _ _) (by rw [ksOf_length]; omega)
              clear hS HMV HBW HIN
              generalize keep was t (ksOf z j) = L at h4 hLl ⊢
              have c1 := h4.ch
              have H4 := (show Hid (St4 w wr pb cb wb g3 j (upd f (t * 10 + 7) (.bool false)) L) from h4)
              clear h4
              go_wp2
              go_loopw [18] (fun iv W => ∃ (q : Nat), q ≤ L.length ∧ iv = .int .i64 q ∧ St4 w W pb cb wb g3 j (upd f (t * 10 + 7) (.bool false)) L) (fun iv _ => L.length - (intOf iv).toNat)
              case atStart => exact ⟨0, Nat.zero_le _, rfl, H4.out⟩
              case round =>
                obtain ⟨q, hq, rfl, h4⟩ := hrel
                clear H4 c1
                by_cases hlt4 : q < L.length
                · have c1 := h4.ch
                  have c2 := h4.row q hlt4
                  have c3 := h4.want q hlt4
                  have hl8 := h4.le q hlt4
                  have hl8i : ((L[q]! : Nat) : Int) < 8 := by omega
                  have hqi : (q : Int) < (L.length : Int) := by omega
                  have hnq := fun w => neq_pt w pb L[q]!
                  unfold pt at hnq
                  have H4 := (show Hid (St4 w wr pb cb wb g3 j (upd f (t * 10 + 7) (.bool false)) L) from h4)
                  clear h4
                  generalize L[q]! = l at c2 c3 hl8 hl8i hnq
                  go_wp2
                  go_quiet (fail)
                  go_wp2
                  go_roundw
                  case rel => exact ⟨q + 1, by omega, by go_num, H4.out.drewN _⟩
                  case measure => simp [intOf]; omega
                · have hql : q = L.length := by omega
                  subst hql
                  have H4 := (show Hid (St4 w wr pb cb wb g3 j (upd f (t * 10 + 7) (.bool false)) L) from h4)
                  clear h4
                  go_wp2
                  go_loopw [19] (fun iv W => ∃ (q : Nat), q ≤ 8 ∧ iv = .int .i64 q ∧ St4 w W pb cb wb g3 j (upd f (t * 10 + 7) (.bool false)) L) (fun iv _ => 8 - (intOf iv).toNat)
                  case atStart => exact ⟨0, Nat.zero_le _, rfl, H4.out⟩
                  case round =>
                    obtain ⟨q, hq5, rfl, h4⟩ := hrel
                    clear H4
                    have H4 := (show Hid (St4 w wr pb cb wb g3 j (upd f (t * 10 + 7) (.bool false)) L) from h4)
                    by_cases hlt5 : q < 8
                    · have c1 := h4.pool.at (show q * 10 + 7 < 80 by omega)
                      have hqi : (q : Int) < 8 := by omega
                      by_cases hqt : q = t
                      · subst hqt
                        rw [upd_same] at c1
                        clear h4
                        go_wp2
                        go_roundw
                        case rel => exact ⟨q + 1, by omega, by go_num, H4.out⟩
                        case measure => simp [intOf]; omega
                      · rw [upd_other _ _ (by omega), HF.out q hlt5, if_pos hlt5] at c1
                        have hne : ¬ (q : Int) = (t : Int) := by omega
                        clear h4
                        cases hb : (bits BinOp.and IntKind.u8 (a1 / 2 ^ q) 1 == 1)
                        all_goals
                          rw [show FL a1 q = _ from hb] at c1
                          go_wp2
                          go_roundw
                          case rel => exact ⟨q + 1, by omega, by go_num, H4.out⟩
                          case measure => simp [intOf]; omega
                    · have h8 : q = 8 := by omega
                      subst h8
                      clear h4
                      go_wp2
                      go_ret
                      exact ⟨rfl, H4.out.below⟩
end Go.Proofs.Ybulktii
