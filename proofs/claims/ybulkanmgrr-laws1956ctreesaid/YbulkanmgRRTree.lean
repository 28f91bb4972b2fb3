import Derived.Test.YbulkanmgRRRot
import Derived.Deep.Trees
namespace Go.Proofs.YbulkanmgRR
set_option linter.unusedVariables false
set_option linter.unusedSimpArgs false
open Go.Deep

/-- The root's number; the nodes from left to right. -/
def rt : BT Unit → Option Nat
  | .nil => none
  | .node i _ _ _ _ => some i
def io : BT Unit → List Nat
  | .nil => []
  | .node i _ _ l r => io l ++ i :: io r

/-- The pointers at 22 (up), 23 (left), 24 (right) make up the tree t under p. -/
def IsT (f : Nat → Nat → Option Nat) : BT Unit → Option Nat → Prop
  | .nil, _ => True
  | .node i _ _ l r, p => f i 22 = p ∧ f i 23 = rt l ∧ f i 24 = rt r ∧ IsT f l (some i) ∧ IsT f r (some i)

/-- A way up from a place in a tree: at each step whether one comes from the left, the node, its other subtree. -/
abbrev Ctx := List (Bool × Nat × BT Unit)
def par : Ctx → Option Nat
  | [] => none
  | (_, i, _) :: _ => some i
def nodesC : Ctx → List Nat
  | [] => []
  | (_, i, o) :: c => i :: (io o ++ nodesC c)
def IsC (f : Nat → Nat → Option Nat) (root : Option Nat) : Ctx → Option Nat → Prop
  | [], h => root = h
  | (d, i, o) :: c, h => f i 22 = par c ∧ f i 23 = (if d then h else rt o) ∧ f i 24 = (if d then rt o else h) ∧ IsT f o (some i) ∧ IsC f root c (some i)
/-- The whole tree's nodes from left to right, xs at the place. -/
def wrap : Ctx → List Nat → List Nat
  | [], xs => xs
  | (true, i, o) :: c, xs => wrap c (xs ++ i :: io o)
  | (false, i, o) :: c, xs => wrap c (io o ++ i :: xs)

theorem IsT.congr {f f' : Nat → Nat → Option Nat} : ∀ (t : BT Unit) (p : Option Nat), (∀ i ∈ io t, f' i 22 = f i 22 ∧ f' i 23 = f i 23 ∧ f' i 24 = f i 24) → IsT f t p → IsT f' t p
  | .nil, _, _, _ => trivial
  | .node i _ _ l r, p, e, h => by
    obtain ⟨h1, h2, h3, h4, h5⟩ := h
    obtain ⟨e1, e2, e3⟩ := e i (by simp [io])
    exact ⟨e1.trans h1, e2.trans h2, e3.trans h3, IsT.congr l _ (fun j hj => e j (by simp [io, hj])) h4, IsT.congr r _ (fun j hj => e j (by simp [io, hj])) h5⟩

theorem IsC.congr {f f' : Nat → Nat → Option Nat} {root : Option Nat} : ∀ (c : Ctx) (h : Option Nat), (∀ i ∈ nodesC c, f' i 22 = f i 22 ∧ f' i 23 = f i 23 ∧ f' i 24 = f i 24) → IsC f root c h → IsC f' root c h
  | [], _, _, h => h
  | (d, i, o) :: c, h, e, hh => by
    obtain ⟨h1, h2, h3, h4, h5⟩ := hh
    obtain ⟨e1, e2, e3⟩ := e i (by simp [nodesC])
    exact ⟨e1.trans h1, e2.trans h2, e3.trans h3, IsT.congr o _ (fun j hj => e j (by simp [nodesC, hj])) h4, IsC.congr c _ (fun j hj => e j (by simp [nodesC, hj])) h5⟩

theorem rt_mem {t : BT Unit} {i : Nat} (h : rt t = some i) : i ∈ io t := by
  cases t with
  | nil => cases h
  | node j o a l r => simp [rt] at h; simp [io, h]

theorem wrap_perm : ∀ (c : Ctx) (xs : List Nat), (wrap c xs).Perm (xs ++ nodesC c)
  | [], xs => by simp [wrap, nodesC]
  | (true, i, o) :: c, xs => by
    have h := wrap_perm c (xs ++ i :: io o)
    simpa [wrap, nodesC] using h
  | (false, i, o) :: c, xs => by
    have h := wrap_perm c (io o ++ i :: xs)
    refine h.trans ?_
    simp only [nodesC, ← List.append_assoc, ← List.cons_append]
    refine List.Perm.append_right _ ?_
    have e : (io o ++ i :: xs).Perm (xs ++ i :: io o) := by
      refine List.perm_append_comm.trans ?_
      exact List.perm_middle.symm
    refine e.trans ?_
    simp

theorem mem_wrap {c : Ctx} {xs : List Nat} {i : Nat} : i ∈ wrap c xs ↔ i ∈ xs ∨ i ∈ nodesC c := by rw [(wrap_perm c xs).mem_iff, List.mem_append]

/-- The tree in memory, looked at from one place: c the way up, t the subtree there. -/
structure At (f : Nat → Nat → Option Nat) (root : Option Nat) (c : Ctx) (t : BT Unit) : Prop where
  ctx : IsC f root c (rt t)
  tree : IsT f t (par c)
  nodup : (io t ++ nodesC c).Nodup

theorem rotL_eq (f : Nat → Nat → Option Nat) (a k i o : Nat) : rotL f a k i o = if i = k ∧ o = 22 then some a else if i = a ∧ o = 22 then f k 22 else repF (rot1L f a k) (f k 22) k (some a) i o := rfl
theorem rot1L_eq (f : Nat → Nat → Option Nat) (a k i o : Nat) : rot1L f a k i o = if f a 24 = some i ∧ o = 22 then some k else if i = a ∧ o = 24 then some k else if i = k ∧ o = 23 then f a 24 else f i o := by
  unfold rot1L
  cases e : f a 24 with
  | none => simp [upd]
  | some x =>
    by_cases h : i = x ∧ o = 22
    · obtain ⟨rfl, rfl⟩ := h; simp [upd]
    · have h' : ¬ (some x = some i ∧ o = 22) := fun h' => h ⟨(Option.some.inj h'.1).symm, h'.2⟩
      simp only [upd]
      rw [if_neg h, if_neg h']
theorem repF_eq (f : Nat → Nat → Option Nat) (pp : Option Nat) (old : Nat) (t : Option Nat) (i o : Nat) : repF f pp old t i o = if pp = some i ∧ ((o = 23 ∧ f i 23 = some old) ∨ (o = 24 ∧ f i 23 ≠ some old)) then t else f i o := by
  unfold repF
  cases pp with
  | none => simp
  | some p =>
    by_cases hi : i = p
    · subst hi
      by_cases e : f i 23 = some old
      · by_cases ho : o = 23
        · simp [e, upd, ho]
        · simp [e, upd, ho]
      · by_cases ho : o = 24
        · simp [e, upd, ho]
        · simp [e, upd, ho]
    · have h' : ¬ some p = some i := fun h' => hi (Option.some.inj h').symm
      simp only [h', false_and, if_false]
      split <;> simp [upd, hi]
end Go.Proofs.YbulkanmgRR
