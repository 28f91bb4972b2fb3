import Derived.Test.YbulkanmgRRDrop
namespace Go.Proofs.YbulkanmgRR
set_option linter.unusedVariables false
set_option linter.unusedSimpArgs false
open Go.RowKit Go.Deep

def plug : Ctx → BT Unit → BT Unit
  | [], t => t
  | (true, i, o) :: c, t => plug c (.node i 0 () t o)
  | (false, i, o) :: c, t => plug c (.node i 0 () o t)

theorem plug_ok {f : Nat → Nat → Option Nat} {root : Option Nat} : ∀ (c : Ctx) (t : BT Unit), IsC f root c (rt t) → IsT f t (par c) → IsT f (plug c t) none ∧ rt (plug c t) = root ∧ io (plug c t) = wrap c (io t)
  | [], t, h1, h2 => ⟨h2, h1.symm, rfl⟩
  | (true, i, o) :: c, t, ⟨a, b, d, e, h⟩, h2 => plug_ok c (.node i 0 () t o) h ⟨a, b, d, h2, e⟩
  | (false, i, o) :: c, t, ⟨a, b, d, e, h⟩, h2 => plug_ok c (.node i 0 () o t) h ⟨a, b, d, e, h2⟩

/-- Every node of a tree can be looked at. -/
theorem focus {f : Nat → Nat → Option Nat} {root : Option Nat} {k : Nat} : ∀ (t : BT Unit) (c : Ctx), IsC f root c (rt t) → IsT f t (par c) → k ∈ io t →
    ∃ c' l r, IsC f root c' (some k) ∧ IsT f (.node k 0 () l r) (par c') ∧ wrap c' (io (.node k 0 () l r)) = wrap c (io t)
  | .nil, _, _, _, h => by simp [io] at h
  | .node i o u l r, c, hc, ht, h => by
    obtain ⟨h1, h2, h3, h4, h5⟩ := ht
    simp only [io, List.mem_append, List.mem_cons] at h
    rcases h with h | rfl | h
    · obtain ⟨c', l', r', a, b, d⟩ := focus (f := f) (root := root) l ((true, i, r) :: c) ⟨h1, h2, h3, h5, hc⟩ h4 h
      exact ⟨c', l', r', a, b, d.trans rfl⟩
    · exact ⟨c, l, r, hc, ⟨h1, h2, h3, h4, h5⟩, rfl⟩
    · obtain ⟨c', l', r', a, b, d⟩ := focus (f := f) (root := root) r ((false, i, l) :: c) ⟨h1, h2, h3, h4, hc⟩ h5 h
      exact ⟨c', l', r', a, b, d.trans rfl⟩

theorem wrap_split : ∀ (c : Ctx), ∃ P Q, ∀ xs, wrap c xs = P ++ xs ++ Q
  | [] => ⟨[], [], fun xs => by simp [wrap]⟩
  | (true, i, o) :: c => by
    obtain ⟨P, Q, h⟩ := wrap_split c
    exact ⟨P, i :: io o ++ Q, fun xs => by simp [wrap, h]⟩
  | (false, i, o) :: c => by
    obtain ⟨P, Q, h⟩ := wrap_split c
    exact ⟨P ++ io o ++ [i], Q, fun xs => by simp [wrap, h]⟩

theorem rotL_keep (f : Nat → Nat → Option Nat) (a k i o : Nat) (h1 : o ≠ 22) (h2 : o ≠ 23) (h3 : o ≠ 24) : rotL f a k i o = f i o := by
  rw [rotL_eq, if_neg (by omega), if_neg (by omega), repF_eq, if_neg (by omega), rot1L_eq, if_neg (by omega), if_neg (by omega), if_neg (by omega)]
theorem rotR_keep (f : Nat → Nat → Option Nat) (a k i o : Nat) (h1 : o ≠ 22) (h2 : o ≠ 23) (h3 : o ≠ 24) : rotR f a k i o = f i o := by
  rw [rotR_eq, if_neg (by omega), if_neg (by omega), repF_eq, if_neg (by omega), rot1R_eq, if_neg (by omega), if_neg (by omega), if_neg (by omega)]
theorem dropF_keep (f : Nat → Nat → Option Nat) (k : Nat) (ch : Option Nat) (i o : Nat) (h1 : o ≠ 22) (h2 : o ≠ 23) (h3 : o ≠ 24) : dropF f k ch i o = f i o := by
  simp only [dropF, upd]
  rw [if_neg (by omega), if_neg (by omega), if_neg (by omega), repF_eq, if_neg (by omega), drop1_eq, if_neg (by omega)]
theorem repG_8 (g : Nat → Option Nat) (pp : Option Nat) (a : Nat) : repG g pp (some a) 8 = rootOf (g 8) pp a := by cases pp <;> simp [repG, rootOf, upd1]
theorem repG_8c (g : Nat → Option Nat) (pp ch : Option Nat) : repG g pp ch 8 = rootCh (g 8) pp ch := by cases pp <;> simp [repG, rootCh, upd1]
theorem repG_keep (g : Nat → Option Nat) (pp t : Option Nat) (o : Nat) (h : o ≠ 8) : repG g pp t o = g o := by cases pp <;> simp [repG, upd1, h]

/-- What holds between two rounds of 'uproot': the tree, looked at from k; its nodes from left to right are L; the list's links and the table's ends are the first's. -/
structure Rooted (w0 w : World) (B n T : Nat) (f0 : Nat → Nat → Option Nat) (g0 : Nat → Option Nat) (wt : Nat → Option Addr) (wait : Int) (k : Nat) (L : List Nat) (f : Nat → Nat → Option Nat) (g : Nat → Option Nat) (c : Ctx) (l r : BT Unit) : Prop where
  mem : Mem w B n T f wt g wait
  here : At f (g 8) c (.node k 0 () l r)
  nodes : wrap c (io (.node k 0 () l r)) = L
  links : ∀ i, f i 14 = f0 i 14 ∧ f i 15 = f0 i 15
  ends : g 6 = g0 6 ∧ g 7 = g0 7
  bel : Below B w0 w

/-- What 'uproot' leaves. -/
structure Gone (w0 w : World) (B n T : Nat) (f0 : Nat → Nat → Option Nat) (g0 : Nat → Option Nat) (wt : Nat → Option Addr) (wait : Int) (k : Nat) (L : List Nat) (f : Nat → Nat → Option Nat) (g : Nat → Option Nat) (t : BT Unit) : Prop where
  mem : Mem w B n T f wt g wait
  tree : IsT f t none
  root : rt t = g 8
  nodes : ∃ P Q, L = P ++ k :: Q ∧ io t = P ++ Q
  clear : f k 22 = none ∧ f k 23 = none ∧ f k 24 = none
  links : ∀ i, f i 14 = f0 i 14 ∧ f i 15 = f0 i 15
  ends : g 6 = g0 6 ∧ g 7 = g0 7
  bel : Below B w0 w

section
variable {w0 w w' : World} {B n T : Nat} {f0 : Nat → Nat → Option Nat} {g0 : Nat → Option Nat} {wt : Nat → Option Addr} {wait : Int} {k : Nat} {L : List Nat} {f : Nat → Nat → Option Nat} {g : Nat → Option Nat} {c : Ctx} {l r : BT Unit}

theorem Rooted.left {a oa : Nat} {ua : Unit} {la ra : BT Unit} (h : Rooted w0 w B n T f0 g0 wt wait k L f g c (.node a oa ua la ra) r) (hm : Mem w' B n T (rotL f a k) wt (repG g (f k 22) (some a)) wait) (hb : Below B w w') :
    Rooted w0 w' B n T f0 g0 wt wait k L (rotL f a k) (repG g (f k 22) (some a)) ((false, a, la) :: c) ra r := by
  refine ⟨hm, by rw [repG_8]; exact h.here.left, ?_, fun i => ?_, ?_, h.bel.trans hb⟩
  · rw [← h.nodes]; simp [wrap, io]
  · rw [rotL_keep _ _ _ _ _ (by decide) (by decide) (by decide), rotL_keep _ _ _ _ _ (by decide) (by decide) (by decide)]; exact h.links i
  · rw [repG_keep _ _ _ _ (by decide), repG_keep _ _ _ _ (by decide)]; exact h.ends

theorem Rooted.right {a oa : Nat} {ua : Unit} {la ra : BT Unit} (h : Rooted w0 w B n T f0 g0 wt wait k L f g c l (.node a oa ua la ra)) (hm : Mem w' B n T (rotR f a k) wt (repG g (f k 22) (some a)) wait) (hb : Below B w w') :
    Rooted w0 w' B n T f0 g0 wt wait k L (rotR f a k) (repG g (f k 22) (some a)) ((true, a, ra) :: c) l la := by
  refine ⟨hm, by rw [repG_8]; exact h.here.right, ?_, fun i => ?_, ?_, h.bel.trans hb⟩
  · rw [← h.nodes]; simp [wrap, io]
  · rw [rotR_keep _ _ _ _ _ (by decide) (by decide) (by decide), rotR_keep _ _ _ _ _ (by decide) (by decide) (by decide)]; exact h.links i
  · rw [repG_keep _ _ _ _ (by decide), repG_keep _ _ _ _ (by decide)]; exact h.ends

theorem Rooted.gone {t : BT Unit} (h : Rooted w0 w B n T f0 g0 wt wait k L f g c l r) (ht : (l = .nil ∧ t = r) ∨ (r = .nil ∧ t = l)) (hm : Mem w' B n T (dropF f k (rt t)) wt (repG g (f k 22) (rt t)) wait) (hb : Below B w w') :
    Gone w0 w' B n T f0 g0 wt wait k L (dropF f k (rt t)) (repG g (f k 22) (rt t)) (plug c t) := by
  obtain ⟨h1, h2, h3⟩ := h.here.gone ht
  obtain ⟨p1, p2, p3⟩ := plug_ok c t h1.ctx h1.tree
  refine ⟨hm, p1, ?_, ?_, dropF_k _ _ _, fun i => ?_, ?_, h.bel.trans hb⟩
  · rw [repG_8c]; exact p2
  · obtain ⟨P, Q, hw⟩ := wrap_split c
    rcases ht with ⟨rfl, rfl⟩ | ⟨rfl, rfl⟩
    · exact ⟨P, io t ++ Q, by rw [← h.nodes, hw]; simp [io], by rw [p3, hw]; simp⟩
    · exact ⟨P ++ io t, Q, by rw [← h.nodes, hw]; simp [io], by rw [p3, hw]⟩
  · rw [dropF_keep _ _ _ _ _ (by decide) (by decide) (by decide), dropF_keep _ _ _ _ _ (by decide) (by decide) (by decide)]; exact h.links i
  · rw [repG_keep _ _ _ _ (by decide), repG_keep _ _ _ _ (by decide)]; exact h.ends
end
end Go.Proofs.YbulkanmgRR
