/-
  Seat b0965aF: the walk of 'LawS0965BRoundTrip' (function 4) and of what it calls: formOf (7), TrimSuffix (11), CutPrefix (10), UnmarshalText (12), at the two format lines.
-/
import Derived.Test.YbulksyqFmtFacts
import Derived.Lib.ConvBytes
import Derived.Laws.BytesArg
import Derived.Deep.QuietTactic
import Derived.BigQuiet
namespace Go.Proofs.YbulksyqFmt
open Go.RowKit Go.Extern.Stop Go.Stop Go.Extern
set_option linter.unusedVariables false

def nl : ByteArray := ⟨#[10]⟩
def linesS : ByteArray := ⟨#[108, 105, 110, 101, 115]⟩
def line0s : ByteArray := ⟨#[119, 97, 114, 112, 108, 105, 110, 101, 32, 115, 116, 111, 114, 101, 32, 49]⟩
def line1s : ByteArray := ⟨#[119, 97, 114, 112, 108, 105, 110, 101, 32, 115, 116, 111, 114, 101, 32, 49, 32, 106, 115, 111, 110]⟩

theorem e0a : line0.extract 16 17 = nl := by kernel_rfl
theorem e0b : line0.extract 0 16 = line0s := by kernel_rfl
theorem e1a : line1.extract 21 22 = nl := by kernel_rfl
theorem e1b : line1.extract 0 21 = line1s := by kernel_rfl
theorem e1c : line1s.extract 0 17 = pre17 := by kernel_rfl
theorem e1d : line1s.extract 17 21 = jsonB := by kernel_rfl

set_option maxHeartbeats 800000 in
theorem trim0 (w : World) : Calls Ybaf.prog 11 #[.string line0, .string nl] w fun e w' => e = .returned (.string line0s) ∧ w = w' := by
  have e1 := e0a
  have e2 := e0b
  unfold line0 at e1 e2 ⊢
  unfold nl at e1 ⊢
  go_enter Ybaf.func11, Ybaf.ntmps11
  go_wp2
  go_ret
  exact ⟨rfl, rfl⟩

set_option maxHeartbeats 800000 in
theorem trim1 (w : World) : Calls Ybaf.prog 11 #[.string line1, .string nl] w fun e w' => e = .returned (.string line1s) ∧ w = w' := by
  have e1 := e1a
  have e2 := e1b
  unfold line1 at e1 e2 ⊢
  unfold nl at e1 ⊢
  go_enter Ybaf.func11, Ybaf.ntmps11
  go_wp2
  go_ret
  exact ⟨rfl, rfl⟩

set_option maxHeartbeats 800000 in
theorem cut0 (w : World) : Calls Ybaf.prog 10 #[.string line0s, .string pre17] w fun e w' => e = .returned (.tuple #[.string line0s, .bool false]) ∧ w = w' := by
  unfold line0s pre17
  go_enter Ybaf.func10, Ybaf.ntmps10
  go_wp2
  go_ret2
  exact ⟨rfl, rfl⟩

set_option maxHeartbeats 800000 in
theorem cut1 (w : World) : Calls Ybaf.prog 10 #[.string line1s, .string pre17] w fun e w' => e = .returned (.tuple #[.string jsonB, .bool true]) ∧ w = w' := by
  have e1 := e1c
  have e2 := e1d
  unfold line1s at e1 e2 ⊢
  unfold pre17 at e1 ⊢
  go_enter Ybaf.func10, Ybaf.ntmps10
  go_wp2
  go_ret2
  exact ⟨rfl, rfl⟩

theorem ix0 (x0 x1 : Value) (w : World) : (Instr.index 36 (.agg #[x0, x1]) (.int .i64 0)).run Ybaf.prog w = .ok x0 w := by kernel_rfl
theorem ix1 (x0 x1 : Value) (w : World) : (Instr.index 36 (.agg #[x0, x1]) (.int .i64 1)).run Ybaf.prog w = .ok x1 w := by kernel_rfl

set_option maxHeartbeats 800000 in
theorem unmarshal1 (p b c : Nat) (w : World) (h0 : w.cell? ⟨0, 0, none⟩ = some (.string linesS)) (h1 : w.cell? ⟨0, 1, none⟩ = some (.string jsonB))
    (hp : w.cell? ⟨p, 0, none⟩ = some (.int .u8 0)) (hf : w.frozen? ⟨p, 0, none⟩ = false)
    (hb : ∀ i, i < 4 → w.cell? ⟨b, 0 + i, none⟩ = some (.int .u8 ([106, 115, 111, 110].getD i 0))) :
    Calls Ybaf.prog 12 #[.pointer (some ⟨p, 0, none⟩), .slice (some ⟨b, 0, none⟩) 4 c] w fun e w' => e = .returned .nilIface ∧ w'.cell? ⟨p, 0, none⟩ = some (.int .u8 1) ∧ Below p w w' := by
  have hcv := run_convert_bytes_arg (P := Ybaf.prog) w 35 5 Ybaf.underlying35 Ybaf.underlying5 b 0 4 c [106, 115, 111, 110] rfl hb 9 Ybaf.underlying9
  rw [show strOfNums [106, 115, 111, 110] = (⟨#[106, 115, 111, 110]⟩ : ByteArray) from rfl] at hcv
  have i0 := ix0
  have i1 := ix1
  clear hb
  unfold linesS at h0
  unfold jsonB at h1
  go_enter Ybaf.func12, Ybaf.ntmps12
  go_wp2
  refine wp_loop_rounds 2 ?_
  rw [rounds_succ]
  go_wp2
  rw [rounds_succ]
  go_wp2
  go_ret
  exact ⟨rfl, World.cell?_setCell_same _ _ _ hp, (Below.refl p w).setCell (p := ⟨p, 0, none⟩) (by exact Nat.le_refl _) _⟩

set_option maxHeartbeats 800000 in
theorem formOf0 (w : World) : Calls Ybaf.prog 7 #[.string line0] w fun e w' => e = .returned (.tuple #[.int .u8 0, .bool true]) ∧ Below w.heap.size w w' := by
  go_enter Ybaf.func7, Ybaf.ntmps7
  go_wp2_with fail
  refine (trim0 _).mono ?_
  rintro e w1 ⟨rfl, rfl⟩
  go_wp2_with fail
  refine (cut0 _).mono ?_
  rintro e w1 ⟨rfl, rfl⟩
  go_wp2_with fail
  go_quiet ((go_at_call 5; exact Calls.quiet_of_same ((line_zero _).mono fun e w' h => ⟨h.1, h.2.symm⟩)))
  go_wp2
  go_ret2
  exact ⟨rfl, below_drewN ((Below.refl _ _).alloc (Nat.le_refl _) _) _⟩

theorem bytes_below (w : World) (e : TypeId) (s : ByteArray) : Below w.heap.size w (Lib.bytesWorld w e s) :=
  ⟨rfl, rfl, rfl, by rw [Lib.bytesWorld_size]; omega, fun k hk => Lib.bytesWorld_at_old w e s k hk⟩

set_option maxHeartbeats 800000 in
theorem formOf1 (w : World) (h0 : w.cell? ⟨0, 0, none⟩ = some (.string linesS)) (h1 : w.cell? ⟨0, 1, none⟩ = some (.string jsonB)) (hz : 0 < w.heap.size) : Calls Ybaf.prog 7 #[.string line1] w fun e w' => e = .returned (.tuple #[.int .u8 1, .bool true]) ∧ Below w.heap.size w w' := by
  have hcv := fun wx => Lib.run_convert_string_bytes (P := Ybaf.prog) wx 9 35 5 jsonB Ybaf.underlying9 Ybaf.underlying35 Ybaf.underlying5
  have e4 : jsonB.size = 4 := rfl
  have b1 : Below w.heap.size w (w.alloc (.cells #[.int .u8 0] 22)) := (Below.refl _ _).alloc (Nat.le_refl _) _
  have b2 := bytes_below (w.alloc (.cells #[.int .u8 0] 22)) 5 jsonB
  have b3 : Below w.heap.size w (Lib.bytesWorld (w.alloc (.cells #[.int .u8 0] 22)) 5 jsonB) := b1.trans (b2.mono (by simp))
  have c0 := (b3.cell (p := ⟨0, 0, none⟩) hz).trans h0
  have c1 := (b3.cell (p := ⟨0, 1, none⟩) hz).trans h1
  have cp : (Lib.bytesWorld (w.alloc (.cells #[.int .u8 0] 22)) 5 jsonB).cell? ⟨w.heap.size, 0, none⟩ = some (.int .u8 0) := (b2.cell (p := ⟨w.heap.size, 0, none⟩) (by simp)).trans (by simp)
  have fp : (Lib.bytesWorld (w.alloc (.cells #[.int .u8 0] 22)) 5 jsonB).frozen? ⟨w.heap.size, 0, none⟩ = false := (b2.frozen (p := ⟨w.heap.size, 0, none⟩) (by simp)).trans (by simp)
  have cb : ∀ i, i < 4 → (Lib.bytesWorld (w.alloc (.cells #[.int .u8 0] 22)) 5 jsonB).cell? ⟨w.heap.size + 1, 0 + i, none⟩ = some (.int .u8 ([106, 115, 111, 110].getD i 0)) := by
    intro i hi
    have := Lib.bytesWorld_cell (w.alloc (.cells #[.int .u8 0] 22)) 5 jsonB i (by omega)
    rw [show (w.alloc (.cells #[.int .u8 0] 22)).heap.size = w.heap.size + 1 by simp] at this
    rw [Nat.zero_add, this]
    match i, hi with
    | 0, _ => rfl
    | 1, _ => rfl
    | 2, _ => rfl
    | 3, _ => rfl
  have H0 := (show Hid _ from c0)
  have H1 := (show Hid _ from c1)
  have HP := (show Hid _ from cp)
  have HF := (show Hid _ from fp)
  have HB := (show Hid _ from cb)
  have HW := (show Hid _ from b3)
  clear c0 c1 cp fp cb b1 b2 b3 h0 h1
  go_enter Ybaf.func7, Ybaf.ntmps7
  go_wp2_with fail
  refine (trim1 _).mono ?_
  rintro e w1 ⟨rfl, rfl⟩
  go_wp2_with fail
  refine (cut1 _).mono ?_
  rintro e w1 ⟨rfl, rfl⟩
  go_wp2_with fail
  refine (unmarshal1 w.heap.size (w.heap.size + 1) _ _ H0.out H1.out HP.out HF.out HB.out).mono ?_
  rintro e w2 ⟨rfl, hc2, hb2⟩
  have hj2 : w2.cell? ⟨0, 1, none⟩ = some (.string jsonB) := (hb2.cell (p := ⟨0, 1, none⟩) hz).trans H1.out
  have hbT : Below w.heap.size w w2 := HW.out.trans hb2
  clear hb2 H0 H1 HP HF HB HW hcv
  go_wp2_with fail
  go_quiet ((go_at_call 5; exact Calls.quiet_of_same ((line_one _ (by simpa using hj2)).mono fun e w' h => ⟨h.1, h.2.symm⟩)))
  go_wp2
  go_ret2
  exact ⟨rfl, below_drewN hbT _⟩

set_option maxHeartbeats 800000 in
theorem trip_even (n : Int) (w : World) (hn : n % 2 = 0) (h0 : 0 ≤ n) (h1 : n ≤ 255) : Calls Ybaf.prog 4 #[.int .u8 n] w fun e w' => e = .returned (.bool true) ∧ Below w.heap.size w w' := by
  go_enter Ybaf.func4, Ybaf.ntmps4
  go_wp2_with fail
  refine (line_zero _).mono ?_
  rintro e w1 ⟨rfl, rfl⟩
  go_wp2_with fail
  refine (formOf0 _).mono ?_
  rintro e w1 ⟨rfl, hb⟩
  go_wp2
  go_ret
  exact ⟨rfl, hb⟩

set_option maxHeartbeats 800000 in
theorem trip_odd (n : Int) (w : World) (hn : n % 2 = 1) (h0 : 0 ≤ n) (h1 : n ≤ 255) (c0 : w.cell? ⟨0, 0, none⟩ = some (.string linesS)) (c1 : w.cell? ⟨0, 1, none⟩ = some (.string jsonB)) (hz : 0 < w.heap.size) :
    Calls Ybaf.prog 4 #[.int .u8 n] w fun e w' => e = .returned (.bool true) ∧ Below w.heap.size w w' := by
  go_enter Ybaf.func4, Ybaf.ntmps4
  go_wp2_with fail
  refine (line_one _ c1).mono ?_
  rintro e w1 ⟨rfl, rfl⟩
  go_wp2_with fail
  refine (formOf1 _ c0 c1 hz).mono ?_
  rintro e w1 ⟨rfl, hb⟩
  go_wp2
  go_ret
  exact ⟨rfl, hb⟩

end Go.Proofs.YbulksyqFmt
