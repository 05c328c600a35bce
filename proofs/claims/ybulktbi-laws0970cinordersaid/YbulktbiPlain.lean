/-
  Seat b0970a, LawS0970CInOrder: the plain mathematics: a list of entries, kept sorted by number, a new entry behind all that are not greater; the cells of such a list, two for each entry.
-/
import GoSem.Claims
namespace Go.Proofs.Ybulktbi
set_option linter.unusedSimpArgs false
set_option linter.unusedVariables false

/-- A thing that waits: its number, its place in the script, the block that holds that place. -/
structure Ent where
  n : Int
  k : Int
  q : Nat

/-- How many stand before a new entry of number n. -/
def cut (s : List Ent) (n : Int) : Nat := (s.filter (fun y => decide (y.n ≤ n))).length
def ins (s : List Ent) (x : Ent) : List Ent := s.take (cut s x.n) ++ x :: s.drop (cut s x.n)
def isort (l : List Ent) : List Ent := l.foldl ins []
def Srt (s : List Ent) : Prop := s.Pairwise (fun a b => a.n ≤ b.n)

theorem cut_le (s : List Ent) (n : Int) : cut s n ≤ s.length := List.length_filter_le _ _

theorem filter_none {s : List Ent} {n : Int} (h : ∀ y ∈ s, n < y.n) : s.filter (fun y => decide (y.n ≤ n)) = [] := by
  rw [List.filter_eq_nil_iff]
  intro y hy
  have := h y hy
  simp; omega

theorem cut_spec {s : List Ent} (hs : Srt s) (n : Int) : ∀ i (h : i < s.length), (n < (s[i]'h).n ↔ cut s n ≤ i) := by
  induction s with
  | nil => intro i h; simp at h
  | cons a s ih =>
    have hs' : Srt s := (List.pairwise_cons.1 hs).2
    have ha := (List.pairwise_cons.1 hs).1
    intro i h
    by_cases hle : a.n ≤ n
    · have hc : cut (a :: s) n = cut s n + 1 := by simp [cut, List.filter_cons, hle]
      rw [hc]
      cases i with
      | zero => simp; omega
      | succ i =>
        have := ih hs' i (by simpa using h)
        simp only [List.getElem_cons_succ]
        omega
    · have hc : cut (a :: s) n = 0 := by
        unfold cut
        rw [filter_none]
        · rfl
        · intro y hy
          rcases List.mem_cons.1 hy with rfl | hy
          · omega
          · have := ha y hy; omega
      rw [hc]
      cases i with
      | zero => simp; omega
      | succ i =>
        have := ha _ (List.getElem_mem (by simpa using h : i < s.length))
        simp only [List.getElem_cons_succ]
        omega

theorem length_ins (s : List Ent) (x : Ent) : (ins s x).length = s.length + 1 := by
  have := cut_le s x.n
  simp [ins]
  omega

theorem mem_ins {s : List Ent} {x y : Ent} : y ∈ ins s x ↔ y = x ∨ y ∈ s := by
  have : y ∈ s ↔ y ∈ s.take (cut s x.n) ∨ y ∈ s.drop (cut s x.n) := by
    rw [← List.mem_append, List.take_append_drop]
  rw [this]
  simp only [ins, List.mem_append, List.mem_cons]
  constructor
  · rintro (h | h | h)
    · exact .inr (.inl h)
    · exact .inl h
    · exact .inr (.inr h)
  · rintro (h | h | h)
    · exact .inr (.inl h)
    · exact .inl h
    · exact .inr (.inr h)

theorem srt_ins {s : List Ent} (hs : Srt s) (x : Ent) : Srt (ins s x) := by
  have hle := cut_le s x.n
  unfold ins Srt
  rw [List.pairwise_append]
  refine ⟨List.Pairwise.sublist (List.take_sublist _ _) hs, ?_, ?_⟩
  · rw [List.pairwise_cons]
    refine ⟨?_, List.Pairwise.sublist (List.drop_sublist _ _) hs⟩
    intro y hy
    obtain ⟨i, hi, rfl⟩ := List.getElem_of_mem hy
    rw [List.getElem_drop]
    have := (cut_spec hs x.n (cut s x.n + i) (by simp at hi; omega)).2 (by omega)
    omega
  · intro a ha b hb
    obtain ⟨i, hi, rfl⟩ := List.getElem_of_mem ha
    rw [List.getElem_take]
    simp at hi
    have h1 : ¬ x.n < (s[i]'(by omega)).n := by rw [cut_spec hs x.n i (by omega)]; omega
    rcases List.mem_cons.1 hb with rfl | hb
    · omega
    · obtain ⟨j, hj, rfl⟩ := List.getElem_of_mem hb
      rw [List.getElem_drop]
      have := (cut_spec hs x.n (cut s x.n + j) (by simp at hj; omega)).2 (by omega)
      omega

theorem isort_snoc (l : List Ent) (x : Ent) : isort (l ++ [x]) = ins (isort l) x := by simp [isort, List.foldl_append]

theorem srt_isort (l : List Ent) : Srt (isort l) := by
  unfold isort
  suffices h : ∀ (l s : List Ent), Srt s → Srt (l.foldl ins s) from h l [] List.Pairwise.nil
  intro l
  induction l with
  | nil => intro s h; exact h
  | cons x l ih => intro s h; exact ih _ (srt_ins h x)

theorem length_isort (l : List Ent) : (isort l).length = l.length := by
  unfold isort
  suffices h : ∀ (l s : List Ent), (l.foldl ins s).length = s.length + l.length by simpa using h l []
  intro l
  induction l with
  | nil => intro s; simp
  | cons x l ih => intro s; rw [List.foldl_cons, ih, length_ins]; simp; omega

theorem mem_isort {l : List Ent} {y : Ent} : y ∈ isort l ↔ y ∈ l := by
  unfold isort
  suffices h : ∀ (l s : List Ent), y ∈ l.foldl ins s ↔ y ∈ s ∨ y ∈ l by simpa using h l []
  intro l
  induction l with
  | nil => intro s; simp
  | cons x l ih =>
    intro s
    rw [List.foldl_cons, ih, mem_ins, List.mem_cons]
    constructor
    · rintro ((h | h) | h)
      · exact .inr (.inl h)
      · exact .inl h
      · exact .inr (.inr h)
    · rintro (h | h | h)
      · exact .inl (.inr h)
      · exact .inl (.inl h)
      · exact .inr h

/-! ### Two cells for each entry -/
def cells2 (f g : Ent → Value) (l : List Ent) : List Value := l.flatMap (fun x => [f x, g x])

theorem cells2_nil (f g : Ent → Value) : cells2 f g [] = [] := rfl
theorem cells2_cons (f g : Ent → Value) (x : Ent) (l : List Ent) : cells2 f g (x :: l) = f x :: g x :: cells2 f g l := by simp [cells2]
theorem cells2_append (f g : Ent → Value) (l l' : List Ent) : cells2 f g (l ++ l') = cells2 f g l ++ cells2 f g l' := by simp [cells2]
theorem cells2_length (f g : Ent → Value) (l : List Ent) : (cells2 f g l).length = l.length * 2 := by
  induction l with
  | nil => rfl
  | cons x l ih => rw [cells2_cons]; simp [ih]; omega

theorem cells2_fst (f g : Ent → Value) (l : List Ent) : ∀ i (h : i < l.length), (cells2 f g l)[i * 2]? = some (f (l[i]'h)) := by
  induction l with
  | nil => intro i h; simp at h
  | cons x l ih =>
    intro i h
    rw [cells2_cons]
    cases i with
    | zero => simp
    | succ i =>
      rw [show (i + 1) * 2 = i * 2 + 1 + 1 by omega]
      simp only [List.getElem?_cons_succ, List.getElem_cons_succ]
      exact ih i (by simpa using h)

theorem cells2_snd (f g : Ent → Value) (l : List Ent) : ∀ i (h : i < l.length), (cells2 f g l)[i * 2 + 1]? = some (g (l[i]'h)) := by
  induction l with
  | nil => intro i h; simp at h
  | cons x l ih =>
    intro i h
    rw [cells2_cons]
    cases i with
    | zero => simp
    | succ i =>
      rw [show (i + 1) * 2 + 1 = i * 2 + 1 + 1 + 1 by omega]
      simp only [List.getElem?_cons_succ, List.getElem_cons_succ]
      exact ih i (by simpa using h)

theorem cells2_set (f g : Ent → Value) (l : List Ent) (x : Ent) : ∀ i, i < l.length → ((cells2 f g l).set (i * 2) (f x)).set (i * 2 + 1) (g x) = cells2 f g (l.set i x) := by
  induction l with
  | nil => intro i h; simp at h
  | cons y l ih =>
    intro i h
    rw [cells2_cons]
    cases i with
    | zero => simp [cells2_cons]
    | succ i =>
      rw [show (i + 1) * 2 + 1 = i * 2 + 1 + 1 + 1 by omega, show (i + 1) * 2 = i * 2 + 1 + 1 by omega]
      simp only [List.set_cons_succ, cells2_cons]
      rw [ih i (by simpa using h)]

theorem cells2_take (f g : Ent → Value) (l : List Ent) : ∀ i, (cells2 f g l).take (i * 2) = cells2 f g (l.take i) := by
  induction l with
  | nil => intro i; simp [cells2]
  | cons y l ih =>
    intro i
    cases i with
    | zero => simp [cells2]
    | succ i =>
      rw [cells2_cons, show (i + 1) * 2 = i * 2 + 1 + 1 by omega]
      simp only [List.take_succ_cons, cells2_cons, ih i]

theorem cells2_drop (f g : Ent → Value) (l : List Ent) : ∀ i, (cells2 f g l).drop (i * 2) = cells2 f g (l.drop i) := by
  induction l with
  | nil => intro i; simp [cells2]
  | cons y l ih =>
    intro i
    cases i with
    | zero => simp
    | succ i =>
      rw [cells2_cons, show (i + 1) * 2 = i * 2 + 1 + 1 by omega]
      simp only [List.drop_succ_cons, ih i]

end Go.Proofs.Ybulktbi
