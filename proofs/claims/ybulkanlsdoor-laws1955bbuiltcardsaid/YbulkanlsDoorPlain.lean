import Derived.Lib.Strings
namespace Go.Proofs.YbulkanlsDoor
open Go

/-- The table of marks, in its order. -/
def tabL : List (List UInt8) := [[61, 61], [33, 61], [38, 38], [124, 124], [33], [40], [41], [91], [93], [123], [125], [44], [59]]
def tab1 : List (List UInt8) := [[33], [40], [41], [91], [93], [123], [125], [44], [59]]
/-- What punctAt answers: the first mark of the table that the text begins with. -/
def punctL (l : List UInt8) : List UInt8 := (tabL.find? fun p => Lib.hasPrefix l p).getD []
def oneL (a : UInt8) : List UInt8 := if a ∈ [33, 40, 41, 91, 93, 123, 125, 44, 59] then [a] else []
/-- What the case table answers. -/
def modelL : List UInt8 → List UInt8
  | a :: b :: _ => if [a, b] ∈ [[61, 61], [33, 61], [38, 38], [124, 124]] then [a, b] else oneL a
  | [a] => oneL a
  | [] => []

theorem pre1 (c a : UInt8) (r : List UInt8) : Lib.hasPrefix (a :: r) [c] = (c == a) := by simp [Lib.hasPrefix, List.isPrefixOf]
theorem pre2 (c d a b : UInt8) (r : List UInt8) : Lib.hasPrefix (a :: b :: r) [c, d] = (c == a && d == b) := by simp [Lib.hasPrefix, List.isPrefixOf]
theorem pre2one (c d a : UInt8) : Lib.hasPrefix [a] [c, d] = false := by simp [Lib.hasPrefix, List.isPrefixOf]

theorem singles (a : UInt8) (r : List UInt8) : (tab1.find? fun p => Lib.hasPrefix (a :: r) p).getD [] = oneL a := by
  by_cases h1 : a = 33
  · subst h1; rfl
  by_cases h2 : a = 40
  · subst h2; rfl
  by_cases h3 : a = 41
  · subst h3; rfl
  by_cases h4 : a = 91
  · subst h4; rfl
  by_cases h5 : a = 93
  · subst h5; rfl
  by_cases h6 : a = 123
  · subst h6; rfl
  by_cases h7 : a = 125
  · subst h7; rfl
  by_cases h8 : a = 44
  · subst h8; rfl
  by_cases h9 : a = 59
  · subst h9; rfl
  have e : oneL a = [] := by simp [oneL, h1, h2, h3, h4, h5, h6, h7, h8, h9]
  rw [e]
  have n (c : UInt8) (h : ¬ a = c) : (c == a) = false := beq_eq_false_iff_ne.2 (fun h' => h h'.symm)
  simp only [tab1, List.find?, pre1, n _ h1, n _ h2, n _ h3, n _ h4, n _ h5, n _ h6, n _ h7, n _ h8, n _ h9]
  rfl

theorem punct_model (l : List UInt8) : punctL l = modelL l := by
  have et : tabL = [[61, 61], [33, 61], [38, 38], [124, 124]] ++ tab1 := rfl
  match l with
  | [] => decide
  | [a] =>
    show _ = oneL a
    rw [← singles a []]
    unfold punctL
    rw [et, List.find?_append]
    simp only [List.find?, pre2one, Option.none_or]
  | a :: b :: r =>
    by_cases h1 : a = 61 ∧ b = 61
    · obtain ⟨rfl, rfl⟩ := h1; rfl
    by_cases h2 : a = 33 ∧ b = 61
    · obtain ⟨rfl, rfl⟩ := h2; rfl
    by_cases h3 : a = 38 ∧ b = 38
    · obtain ⟨rfl, rfl⟩ := h3; rfl
    by_cases h4 : a = 124 ∧ b = 124
    · obtain ⟨rfl, rfl⟩ := h4; rfl
    have e : modelL (a :: b :: r) = oneL a := by simp [modelL, h1, h2, h3, h4]
    rw [e, ← singles a (b :: r)]
    have n (c d : UInt8) (h : ¬ (a = c ∧ b = d)) : (c == a && d == b) = false := by
      rw [Bool.eq_false_iff]; intro h'; rw [Bool.and_eq_true, beq_iff_eq, beq_iff_eq] at h'; exact h ⟨h'.1.symm, h'.2.symm⟩
    unfold punctL
    rw [et, List.find?_append]
    simp only [List.find?, pre2, n _ _ h1, n _ _ h2, n _ _ h3, n _ _ h4, Option.none_or]

/-- The mark is a beginning of the text, of at most two bytes. -/
theorem punct_prefix (l : List UInt8) : Lib.hasPrefix l (punctL l) = true ∧ (punctL l).length ≤ 2 := by
  unfold punctL
  cases h : tabL.find? fun p => Lib.hasPrefix l p with
  | none => exact ⟨by simp [Lib.hasPrefix], by simp⟩
  | some p =>
    have h1 := List.find?_some h
    have h2 := List.mem_of_find?_eq_some h
    refine ⟨h1, ?_⟩
    have : ∀ q ∈ tabL, q.length ≤ 2 := by decide
    exact this p h2
end Go.Proofs.YbulkanlsDoor
