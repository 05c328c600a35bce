/-
  Seat b0970a, LawS0970CInOrder: the contract of zzs0970csort (function 12).
-/
import Derived.Test.YbulktbiGates
import Derived.Deep.AppendLies
import Derived.Laws.AppendOwnNone
import Derived.Deep.QuietTactic
import Derived.BigQuiet
namespace Go.Proofs.Ybulktbi
set_option linter.unusedSimpArgs false
open Go.RowKit
set_option linter.unusedVariables false

def fk (x : Ent) : Value := .int .i64 x.k
theorem info39 : (Yba.prog.info? 39).map (fun i => (i.zero, i.size, i.bytes)) = some (some (.agg #[.int .u64 0, .int .i64 0]), 2, 16) := by kernel_rfl

/-- The row while x, which stood at place i, goes down through the sorted s. -/
def mid (s : List Ent) (x : Ent) (rest : List Ent) (j : Nat) : List Ent := s.take j ++ x :: s.drop j ++ rest

theorem mid_length (s : List Ent) (x : Ent) (rest : List Ent) (j : Nat) : (mid s x rest j).length = s.length + 1 + rest.length := by
  simp [mid]; omega

theorem mid_at (s : List Ent) (x : Ent) (rest : List Ent) {j : Nat} (hj : j ≤ s.length) : (mid s x rest j)[j]? = some x := by
  unfold mid
  rw [List.append_assoc, List.getElem?_append_right (by simp; omega)]
  simp [Nat.min_eq_left hj]

theorem mid_before (s : List Ent) (x : Ent) (rest : List Ent) {j : Nat} (hj : j < s.length) : (mid s x rest (j + 1))[j]? = some (s[j]'hj) := by
  unfold mid
  rw [List.append_assoc, List.getElem?_append_left (by simp; omega)]
  simp [hj]

theorem set_two {α : Type} (A T : List α) (a b c d : α) : ((A ++ a :: b :: T).set (A.length + 1) c).set A.length d = A ++ d :: c :: T := by simp

theorem mid_step (s : List Ent) (x : Ent) (rest : List Ent) {j : Nat} (hj : j < s.length) : ((mid s x rest (j + 1)).set (j + 1) (s[j]'hj)).set j x = mid s x rest j := by
  have h1 : s.take (j + 1) = s.take j ++ [s[j]'hj] := List.take_succ_eq_append_getElem hj
  have h2 : s.drop j = s[j]'hj :: s.drop (j + 1) := List.drop_eq_getElem_cons hj
  have h3 : (s.take j).length = j := by simp; omega
  have h4 : mid s x rest (j + 1) = s.take j ++ (s[j]'hj) :: x :: (s.drop (j + 1) ++ rest) := by unfold mid; rw [h1]; simp only [List.append_assoc, List.cons_append, List.nil_append]
  have h5 : mid s x rest j = s.take j ++ x :: (s[j]'hj) :: (s.drop (j + 1) ++ rest) := by unfold mid; rw [h2]; simp only [List.append_assoc, List.cons_append]
  rw [h4, h5]
  have := set_two (s.take j) (s.drop (j + 1) ++ rest) (s[j]'hj) x (s[j]'hj) x
  rw [h3] at this
  exact this

theorem mid_cut (s : List Ent) (x : Ent) (rest : List Ent) : mid s x rest (cut s x.n) = ins s x ++ rest := rfl

theorem mid_top (l : List Ent) {i : Nat} (h : i < l.length) : isort (l.take i) ++ l.drop i = mid (isort (l.take i)) (l[i]'h) (l.drop (i + 1)) i := by
  have hl : (isort (l.take i)).length = i := by rw [length_isort]; simp; omega
  have h1 : (isort (l.take i)).take i = isort (l.take i) := List.take_of_length_le (by omega)
  have h2 : (isort (l.take i)).drop i = [] := List.drop_of_length_le (by omega)
  have h3 : l.drop i = l[i]'h :: l.drop (i + 1) := List.drop_eq_getElem_cons h
  unfold mid
  rw [h1, h2, h3]
  simp

theorem mid_down (l : List Ent) {i : Nat} (h : i < l.length) : mid (isort (l.take i)) (l[i]'h) (l.drop (i + 1)) (cut (isort (l.take i)) (l[i]'h).n) = isort (l.take (i + 1)) ++ l.drop (i + 1) := by
  rw [mid_cut, ← isort_snoc, List.take_succ_eq_append_getElem h]

/-- From here on the world is known by Φ alone. -/
theorem post_forget {K : Act → World → Prop} {Q : Exit → Act → World → Prop} {a : Act} {w : World} (Φ : World → Prop) (hΦ : Φ w) (h : ∀ W, Φ W → Exit.then K Q Exit.normal a W) : Exit.then K Q Exit.normal a w := h w hΦ

/-- What the inner round reads and writes. -/
structure MidAt (W : World) (g1 j : Nat) (x y : Ent) : Prop where
  c1 : W.cell? ⟨g1, j * 2, none⟩ = some (.int .u64 y.n)
  c1' : W.cell? ⟨g1, j * 2 + 1, none⟩ = some (.int .i64 y.k)
  c2 : W.cell? ⟨g1, (j + 1) * 2, none⟩ = some (.int .u64 x.n)
  c2' : W.cell? ⟨g1, (j + 1) * 2 + 1, none⟩ = some (.int .i64 x.k)
  f1 : W.frozen? ⟨g1, j * 2, none⟩ = false
  f1' : W.frozen? ⟨g1, j * 2 + 1, none⟩ = false
  f2 : W.frozen? ⟨g1, (j + 1) * 2, none⟩ = false
  f2' : W.frozen? ⟨g1, (j + 1) * 2 + 1, none⟩ = false

theorem midAt {W : World} {B g1 n cap1 i j : Nat} {s rest : List Ent} {x y : Ent} (h : W.ownsRow B 39 2 (.slice (some ⟨g1, 0, none⟩) n cap1) n (cells2 fn fk (mid s x rest (j + 1)))) (hs : s.length = i ∧ n = i + 1 + rest.length) (hj : j < i) (hy : s[j]? = some y) : MidAt W g1 j x y := by
  have hjs : j < s.length := by omega
  have hyy : s[j]'hjs = y := by rw [List.getElem?_eq_getElem hjs] at hy; exact Option.some.inj hy
  have hml : (mid s x rest (j + 1)).length = n := by rw [mid_length]; omega
  have m1 : (mid s x rest (j + 1))[j]'(by omega) = y := by
    have := mid_before s x rest hjs
    rw [List.getElem?_eq_getElem (by omega), hyy] at this
    exact Option.some.inj this
  have m2 : (mid s x rest (j + 1))[j + 1]'(by omega) = x := by
    have := mid_at s x rest (j := j + 1) (by omega)
    rw [List.getElem?_eq_getElem (by omega)] at this
    exact Option.some.inj this
  refine ⟨?_, ?_, ?_, ?_, h.frozenAt _, h.frozenAt _, h.frozenAt _, h.frozenAt _⟩
  · rw [h.cellAt (j * 2) (by omega), cells2_fst fn fk _ j (by omega), m1]; rfl
  · rw [h.cellAt (j * 2 + 1) (by omega), cells2_snd fn fk _ j (by omega), m1]; rfl
  · rw [h.cellAt ((j + 1) * 2) (by omega), cells2_fst fn fk _ (j + 1) (by omega), m2]; rfl
  · rw [h.cellAt ((j + 1) * 2 + 1) (by omega), cells2_snd fn fk _ (j + 1) (by omega), m2]; rfl

/-- Behind the exchange. -/
theorem mid_stored {W : World} {B g1 n cap1 i j : Nat} {s rest : List Ent} {x y : Ent} (h : W.ownsRow B 39 2 (.slice (some ⟨g1, 0, none⟩) n cap1) n (cells2 fn fk (mid s x rest (j + 1)))) (hs : s.length = i ∧ n = i + 1 + rest.length) (hj : j < i) (hy : s[j]? = some y) :
    ((((W.setCell ⟨g1, (j + 1) * 2, none⟩ (.int .u64 y.n)).setCell ⟨g1, (j + 1) * 2 + 1, none⟩ (.int .i64 y.k)).setCell ⟨g1, j * 2, none⟩ (.int .u64 x.n)).setCell ⟨g1, j * 2 + 1, none⟩ (.int .i64 x.k)).ownsRow B 39 2 (.slice (some ⟨g1, 0, none⟩) n cap1) n (cells2 fn fk (mid s x rest j)) := by
  have hjs : j < s.length := by omega
  have hyy : s[j]'hjs = y := by rw [List.getElem?_eq_getElem hjs] at hy; exact Option.some.inj hy
  have hml : (mid s x rest (j + 1)).length = n := by rw [mid_length]; omega
  have e := mid_step s x rest hjs
  rw [hyy] at e
  rw [← e, ← cells2_set fn fk _ x j (by rw [List.length_set]; omega), ← cells2_set fn fk _ y (j + 1) (by omega)]
  exact ((((h.stored _ _).1.stored _ _).1.stored _ _).1.stored _ _).1

set_option maxHeartbeats 400000 in
theorem sort_nil (w : World) : Calls Yba.prog 12 #[.slice none 0 0] w fun e w' => e = .returned (.slice none 0 0) ∧ w = w' := by
  obtain ⟨i0, hi, hz0, hz1, hz2⟩ := info_parts info39
  go_enter Yba.func12, Yba.ntmps12
  go_wp2
  refine wp_loop_rounds 1 ?_
  rw [rounds_succ]
  go_wp2
  go_ret
  exact ⟨rfl, rfl⟩

set_option maxHeartbeats 1000000 in
theorem sort_some (w : World) (l : List Ent) (g cap B : Nat) (hown : w.ownsRow B 39 2 (.slice (some ⟨g, 0, none⟩) l.length cap) l.length (cells2 fn fk l)) (hl0 : 0 < l.length) (hl : l.length ≤ 512) :
    Calls Yba.prog 12 #[.slice (some ⟨g, 0, none⟩) l.length cap] w fun e w' => ∃ g' cap', e = .returned (.slice (some ⟨g', 0, none⟩) l.length cap') ∧ w'.ownsRow w.heap.size 39 2 (.slice (some ⟨g', 0, none⟩) l.length cap') l.length (cells2 fn fk (isort l)) ∧ Below w.heap.size w w' := by
  obtain ⟨i0, hi, hz0, hz1, hz2⟩ := info_parts info39
  have HO := (show Hid (w.ownsRow B 39 2 (.slice (some ⟨g, 0, none⟩) l.length cap) l.length (cells2 fn fk l)) from hown)
  clear hown
  go_enter Yba.func12, Yba.ntmps12
  go_wp2_with (at_builtin; go_must (refine wpList_append_lies _ rfl _ _ 36 rfl w.heap.size 39 i0 (.agg #[.int .u64 0, .int .i64 0]) 2 16 Yba.underlying36 hi hz0 hz1 hz2 rfl (Nat.succ_pos 1) (.slice none 0 0) 0 [] rfl (World.ownsRow_nil _ _ _ _) ⟨g, 0, none⟩ l.length cap (cells2 fn fk l) rfl (cells2_length _ _ _) ?hnews ?hone hl0 ?h63 ?hby (Nat.le_refl _) w.heap.size rfl ?_))
  case hnews => exact HO.out.cells rfl
  case hone =>
    intro u hu
    unfold cells2 at hu
    rw [List.mem_flatMap] at hu
    obtain ⟨y, _, hy⟩ := hu
    simp at hy
    rcases hy with rfl | rfl <;> rfl
  case h63 => unfold maxLen; omega
  case hby => omega
  intro g1 cap1 w1 hown1 hgrow hat hlt
  have hbel1 : Below w.heap.size w w1 := (Below.refl _ _).grown hgrow (Nat.le_refl _) (fun k hk => by simp [Value.ownBlock] at hk)
  have HO1 := (show Hid (w1.ownsRow w.heap.size 39 2 (.slice (some ⟨g1, 0, none⟩) l.length cap1) l.length (cells2 fn fk l)) from hown1)
  have HB1 := (show Hid (Below w.heap.size w w1) from hbel1)
  clear hown1 hgrow hat hlt HO hbel1
  go_wp2
  go_loopw [4] (fun iv wr => ∃ i : Nat, 1 ≤ i ∧ i ≤ l.length ∧ iv = .int .i64 i ∧ wr.ownsRow w.heap.size 39 2 (.slice (some ⟨g1, 0, none⟩) l.length cap1) l.length (cells2 fn fk (isort (l.take i) ++ l.drop i)) ∧ Below w.heap.size w wr) (fun iv _ => l.length - (intOf iv).toNat)
  case atStart =>
    refine ⟨1, Nat.le_refl _, hl0, rfl, ?_, HB1.out⟩
    have : isort (l.take 1) ++ l.drop 1 = l := by
      match l, hl0 with
      | a :: t, _ => rfl
    rw [this]
    exact HO1.out
  case round =>
    obtain ⟨i, hi1, hil, rfl, hown, hbel⟩ := hrel
    have HO := (show Hid (wr.ownsRow w.heap.size 39 2 (.slice (some ⟨g1, 0, none⟩) l.length cap1) l.length (cells2 fn fk (isort (l.take i) ++ l.drop i))) from hown)
    have HB := (show Hid (Below w.heap.size w wr) from hbel)
    clear hown hbel HO1 HB1
    by_cases hlt : i < l.length
    · obtain ⟨s, x, rest, hsl, hsrt, hrl, hstart, hend⟩ : ∃ (s : List Ent) (x : Ent) (rest : List Ent), s.length = i ∧ Srt s ∧ l.length = i + 1 + rest.length ∧ isort (l.take i) ++ l.drop i = mid s x rest i ∧ mid s x rest (cut s x.n) = isort (l.take (i + 1)) ++ l.drop (i + 1) :=
        ⟨isort (l.take i), l[i]'hlt, l.drop (i + 1), by rw [length_isort]; simp; omega, srt_isort _, by simp; omega, mid_top l hlt, mid_down l hlt⟩
      have HS : Hid (s.length = i ∧ l.length = i + 1 + rest.length) := ⟨hsl, hrl⟩
      have HE : Hid (mid s x rest (cut s x.n) = isort (l.take (i + 1)) ++ l.drop (i + 1)) := hend
      have HO2 : Hid (wr.ownsRow w.heap.size 39 2 (.slice (some ⟨g1, 0, none⟩) l.length cap1) l.length (cells2 fn fk (mid s x rest i))) := by
        have := HO.out
        rw [hstart] at this
        exact this
      have hcut : cut s x.n ≤ i := by rw [← hsl]; exact cut_le _ _
      clear hsl hrl hstart hend HO
      go_wp2
      go_loopw [5] (fun jv wq => ∃ j : Nat, j ≤ i ∧ jv = .int .i64 j ∧ cut s x.n ≤ j ∧ wq.ownsRow w.heap.size 39 2 (.slice (some ⟨g1, 0, none⟩) l.length cap1) l.length (cells2 fn fk (mid s x rest j)) ∧ Below w.heap.size w wq) (fun jv _ => (intOf jv).toNat)
      case atStart => exact ⟨i, Nat.le_refl _, rfl, hcut, HO2.out, HB.out⟩
      case round =>
        obtain ⟨j, hji, rfl, hcj, hownq, hbelq⟩ := hrel
        have HQ := (show Hid (wr.ownsRow w.heap.size 39 2 (.slice (some ⟨g1, 0, none⟩) l.length cap1) l.length (cells2 fn fk (mid s x rest j))) from hownq)
        have HQB := (show Hid (Below w.heap.size w wr) from hbelq)
        clear hownq hbelq HO2 HB
        have hil' : i < 512 := by omega
        have hli : (i : Int) < (l.length : Int) := by omega
        match j, hji, hcj, HQ with
        | 0, hji, hcj, HQ =>
          have hz : cut s x.n = 0 := by omega
          have HZ : Hid (cut s x.n = 0) := hz
          clear hz
          go_wp2
          go_quiet (fail)
          go_wp2
          go_roundw
          case rel =>
            refine ⟨i + 1, by omega, by omega, by go_num, ?_, below_drewN HQB.out _⟩
            rw [← HE.out, HZ.out]
            exact HQ.out
          case measure => simp [intOf]; omega
        | j + 1, hji, hcj, HQ =>
          obtain ⟨y, hy⟩ : ∃ y, s[j]? = some y := ⟨_, List.getElem?_eq_getElem (by have := HS.out.1; omega)⟩
          have hji' : j < i := by omega
          obtain ⟨c1, c1', c2, c2', f1, f1', f2, f2'⟩ := midAt HQ.out HS.out hji' hy
          have hspec : x.n < y.n ↔ cut s x.n ≤ j := by
            have hjs : j < s.length := by have := HS.out.1; omega
            have hyy : s[j]'hjs = y := by rw [List.getElem?_eq_getElem hjs] at hy; exact Option.some.inj hy
            have := cut_spec (n := x.n) hsrt j hjs
            rw [hyy] at this
            exact this
          have HY : Hid (s[j]? = some y) := hy
          clear hy
          have hj1 : (j : Int) + 1 < (l.length : Int) := by omega
          have hj0 : (0 : Int) < (j : Int) + 1 := by omega
          have hj2 : (j : Int) < (l.length : Int) := by omega
          by_cases hlt2 : x.n < y.n
          · have hcj2 := hspec.1 hlt2
            clear hspec
            go_wp2
            go_quiet (fail)
            refine post_forget (fun W => W.ownsRow w.heap.size 39 2 (.slice (some ⟨g1, 0, none⟩) l.length cap1) l.length (cells2 fn fk (mid s x rest (j + 1))) ∧ Below w.heap.size w W) ?_ ?_
            · exact ⟨HQ.out, below_drewN HQB.out _⟩
            rintro W5 ⟨hq5, hb5⟩
            clear c1 c1' c2 c2' f1 f1' f2 f2' HQ HQB
            obtain ⟨c1, c1', c2, c2', f1, f1', f2, f2'⟩ := midAt hq5 HS.out hji' HY.out
            have hst := mid_stored hq5 HS.out hji' HY.out
            have HST := (show Hid _ from hst)
            have hg1B : w.heap.size ≤ g1 := (hq5.lt g1 rfl).1
            have hws : w.heap.size ≤ W5.heap.size := hb5.size
            have hglt : g1 < W5.heap.size := (hq5.lt g1 rfl).2
            have HB5 := (show Hid _ from hb5)
            clear hst hq5 hb5
            go_wp2
            go_roundw
            case rel => exact ⟨j, by omega, rfl, hcj2, World.ownsRow.alloc HST.out _, ((((HB5.out.setCell (by exact hg1B) _).setCell (by exact hg1B) _).setCell (by exact hg1B) _).setCell (by exact hg1B) _).alloc (by simp [World.setCell]; exact hws) _⟩
            case measure => simp [intOf]
          · have hcj2 : cut s x.n = j + 1 := by have : ¬ cut s x.n ≤ j := fun h => hlt2 (hspec.2 h); omega
            have HC : Hid (cut s x.n = j + 1) := hcj2
            have hd : decide (x.n < y.n) = false := decide_eq_false hlt2
            clear hspec hcj2 hlt2
            go_wp2
            go_quiet (fail)
            go_wp2
            go_roundw
            case rel =>
              refine ⟨i + 1, by omega, by omega, by go_num, ?_, below_drewN HQB.out _⟩
              rw [← HE.out, HC.out]
              exact HQ.out
            case measure => simp [intOf]; omega
    · go_wp2
      go_ret
      refine ⟨g1, cap1, rfl, ?_, HB.out⟩
      have ho := HO.out
      have e : isort (l.take i) ++ l.drop i = isort l := by
        rw [List.take_of_length_le (by omega), List.drop_of_length_le (by omega), List.append_nil]
      rw [e] at ho
      exact ho

/-- The whole: a slice that owns the cells of l, nil where l is empty. -/
theorem sort_any (w : World) (l : List Ent) (v : Value) (B : Nat) (hown : w.ownsRow B 39 2 v l.length (cells2 fn fk l)) (hnil : l = [] → v = nilS) (hl : l.length ≤ 512) :
    Calls Yba.prog 12 #[v] w fun e w' => ∃ ao' cap', e = .returned (.slice ao' l.length cap') ∧ w'.ownsRow w.heap.size 39 2 (.slice ao' l.length cap') l.length (cells2 fn fk (isort l)) ∧ Below w.heap.size w w' := by
  by_cases h0 : l = []
  · subst h0
    rw [hnil rfl]
    refine (sort_nil w).mono ?_
    rintro e w' ⟨rfl, rfl⟩
    exact ⟨none, 0, rfl, World.ownsRow_nil _ _ _ _, Below.refl _ _⟩
  · have hp : 0 < l.length := List.length_pos_iff.2 h0
    rcases hown.2 with ⟨e, e0⟩ | ⟨g, cap, cur, rfl, _⟩
    · omega
    · refine (sort_some w l g cap B hown hp hl).mono ?_
      rintro e w' ⟨g', cap', rfl, h1, h2⟩
      exact ⟨_, _, rfl, h1, h2⟩

end Go.Proofs.Ybulktbi
