import Derived.Test.YbulkanmgRRTree
namespace Go.Proofs.YbulkanmgRR
set_option linter.unusedVariables false
set_option linter.unusedSimpArgs false
open Go.Deep

theorem rotL_other {f : Nat → Nat → Option Nat} {a k i : Nat} (h1 : i ≠ k) (h2 : i ≠ a) (h3 : f a 24 ≠ some i) (h4 : f k 22 ≠ some i) (o : Nat) : rotL f a k i o = f i o := by
  rw [rotL_eq, if_neg (fun h => h1 h.1), if_neg (fun h => h2 h.1), repF_eq, if_neg (fun h => h4 h.1), rot1L_eq, if_neg (fun h => h3 h.1), if_neg (fun h => h2 h.1), if_neg (fun h => h1 h.1)]
theorem rotL_x {f : Nat → Nat → Option Nat} {a k i : Nat} (h1 : i ≠ k) (h2 : i ≠ a) (h3 : f a 24 = some i) (h4 : f k 22 ≠ some i) : rotL f a k i 22 = some k ∧ rotL f a k i 23 = f i 23 ∧ rotL f a k i 24 = f i 24 := by
  refine ⟨?_, ?_, ?_⟩ <;> rw [rotL_eq, if_neg (fun h => h1 h.1), if_neg (fun h => h2 h.1), repF_eq, if_neg (fun h => h4 h.1), rot1L_eq]
  · rw [if_pos ⟨h3, rfl⟩]
  · rw [if_neg (by omega), if_neg (fun h => h2 h.1), if_neg (fun h => h1 h.1)]
  · rw [if_neg (by omega), if_neg (fun h => h2 h.1), if_neg (fun h => h1 h.1)]
theorem rotL_a {f : Nat → Nat → Option Nat} {a k : Nat} (h1 : a ≠ k) (h4 : f k 22 ≠ some a) : rotL f a k a 22 = f k 22 ∧ rotL f a k a 23 = f a 23 ∧ rotL f a k a 24 = some k := by
  refine ⟨?_, ?_, ?_⟩
  · rw [rotL_eq, if_neg (fun h => h1 h.1), if_pos ⟨rfl, rfl⟩]
  · rw [rotL_eq, if_neg (fun h => h1 h.1), if_neg (by omega), repF_eq, if_neg (fun h => h4 h.1), rot1L_eq, if_neg (by omega), if_neg (by omega), if_neg (fun h => h1 h.1)]
  · rw [rotL_eq, if_neg (fun h => h1 h.1), if_neg (by omega), repF_eq, if_neg (fun h => h4 h.1), rot1L_eq, if_neg (by omega), if_pos ⟨rfl, rfl⟩]
theorem rotL_k {f : Nat → Nat → Option Nat} {a k : Nat} (h1 : a ≠ k) (h4 : f k 22 ≠ some k) : rotL f a k k 22 = some a ∧ rotL f a k k 23 = f a 24 ∧ rotL f a k k 24 = f k 24 := by
  refine ⟨?_, ?_, ?_⟩
  · rw [rotL_eq, if_pos ⟨rfl, rfl⟩]
  · rw [rotL_eq, if_neg (by omega), if_neg (by omega), repF_eq, if_neg (fun h => h4 h.1), rot1L_eq, if_neg (by omega), if_neg (by omega), if_pos ⟨rfl, rfl⟩]
  · rw [rotL_eq, if_neg (by omega), if_neg (by omega), repF_eq, if_neg (fun h => h4 h.1), rot1L_eq, if_neg (by omega), if_neg (fun h => h1 h.1.symm), if_neg (by omega)]
theorem rotL_p {f : Nat → Nat → Option Nat} {a k p : Nat} (hp : f k 22 = some p) (h1 : p ≠ k) (h2 : p ≠ a) (h3 : f a 24 ≠ some p) :
    rotL f a k p 22 = f p 22 ∧ rotL f a k p 23 = (if f p 23 = some k then some a else f p 23) ∧ rotL f a k p 24 = (if f p 23 = some k then f p 24 else some a) := by
  have e : ∀ o, rot1L f a k p o = f p o := fun o => by rw [rot1L_eq, if_neg (fun h => h3 h.1), if_neg (fun h => h2 h.1), if_neg (fun h => h1 h.1)]
  refine ⟨?_, ?_, ?_⟩ <;> rw [rotL_eq, if_neg (fun h => h1 h.1), if_neg (fun h => h2 h.1), repF_eq] <;> simp only [e]
  · rw [if_neg (by omega)]
  · by_cases h : f p 23 = some k
    · rw [if_pos ⟨hp, Or.inl ⟨trivial, h⟩⟩, if_pos h]
    · rw [if_neg (fun h' => by rcases h'.2 with ⟨_, h''⟩ | ⟨h'', _⟩; exact h h''; omega), if_neg h]
  · by_cases h : f p 23 = some k
    · rw [if_neg (fun h' => by rcases h'.2 with ⟨h'', _⟩ | ⟨_, h''⟩; omega; exact h'' h), if_pos h]
    · rw [if_pos ⟨hp, Or.inr ⟨trivial, h⟩⟩, if_neg h]

/-- The root behind a turn. -/
def rootOf (root pp : Option Nat) (a : Nat) : Option Nat := match pp with | none => some a | some _ => root

theorem At.left {f : Nat → Nat → Option Nat} {root : Option Nat} {c : Ctx} {k a ok oa : Nat} {uk ua : Unit} {la ra r : BT Unit} (h : At f root c (.node k ok uk (.node a oa ua la ra) r)) :
    At (rotL f a k) (rootOf root (f k 22) a) ((false, a, la) :: c) (.node k 0 () ra r) := by
  obtain ⟨hctx, ⟨k22, k23, k24, ⟨a22, a23, a24, tla, tra⟩, tr⟩, hnd⟩ := h
  have hnd' : (a :: k :: (io la ++ (io ra ++ (io r ++ nodesC c)))).Nodup := by
    refine (List.Perm.nodup_iff (List.perm_iff_count.2 fun x => ?_)).1 hnd
    simp only [io, List.count_append, List.count_cons]
    omega
  have ha := List.nodup_cons.1 hnd'
  have hk := List.nodup_cons.1 ha.2
  have h1 := List.nodup_append.1 hk.2
  have h2 := List.nodup_append.1 h1.2.1
  have h3 := List.nodup_append.1 h2.2.1
  have mem (i : Nat) : i ∈ io la ++ (io ra ++ (io r ++ nodesC c)) ↔ i ∈ io la ∨ i ∈ io ra ∨ i ∈ io r ∨ i ∈ nodesC c := by simp
  have hak : a ≠ k := fun e => ha.1 (by simp [e])
  have na : ∀ i, (i ∈ io la ∨ i ∈ io ra ∨ i ∈ io r ∨ i ∈ nodesC c) → i ≠ a := fun i hi e => ha.1 (by subst e; exact List.mem_cons_of_mem _ ((mem i).2 hi))
  have nk : ∀ i, (i ∈ io la ∨ i ∈ io ra ∨ i ∈ io r ∨ i ∈ nodesC c) → i ≠ k := fun i hi e => hk.1 (by subst e; exact (mem i).2 hi)
  have xin : ∀ i, f a 24 = some i → i ∈ io ra := fun i hi => rt_mem (a24.symm.trans hi)
  have pin : ∀ i, f k 22 = some i → i ∈ nodesC c := by
    intro i hi
    rw [k22] at hi
    cases c with
    | nil => cases hi
    | cons q c => obtain ⟨d, j, o⟩ := q; simp [par] at hi; simp [nodesC, hi]
  have n_la : ∀ i ∈ io la, ∀ o, rotL f a k i o = f i o := fun i hi o => rotL_other (nk i (.inl hi)) (na i (.inl hi)) (fun e => h1.2.2 i hi i (by simp [xin i e]) rfl) (fun e => h1.2.2 i hi i (by simp [pin i e]) rfl) o
  have n_r : ∀ i ∈ io r, ∀ o, rotL f a k i o = f i o := fun i hi o => rotL_other (nk i (.inr (.inr (.inl hi)))) (na i (.inr (.inr (.inl hi)))) (fun e => h2.2.2 i (xin i e) i (by simp [hi]) rfl) (fun e => h3.2.2 i hi i (pin i e) rfl) o
  have pk : f k 22 ≠ some k := fun e => nk k (.inr (.inr (.inr (pin k e)))) rfl
  have pa : f k 22 ≠ some a := fun e => na a (.inr (.inr (.inr (pin a e)))) rfl
  obtain ⟨r1, r2, r3⟩ := rotL_a (f := f) hak pa
  obtain ⟨q1, q2, q3⟩ := rotL_k (f := f) hak pk
  refine ⟨⟨r1.trans k22, by rw [r2, a23]; rfl, by rw [r3]; rfl, IsT.congr _ _ (fun i hi => ⟨n_la i hi _, n_la i hi _, n_la i hi _⟩) tla, ?_⟩, ⟨q1, q2.trans a24, q3.trans k24, ?_, IsT.congr _ _ (fun i hi => ⟨n_r i hi _, n_r i hi _, n_r i hi _⟩) tr⟩, ?_⟩
  · -- the way up
    cases c with
    | nil =>
      have : f k 22 = none := k22
      simp [IsC, rootOf, this]
    | cons q c =>
      obtain ⟨d, p, o⟩ := q
      obtain ⟨p22, p23, p24, to, hc⟩ := hctx
      have hp : f k 22 = some p := k22
      have hpn : p ∈ nodesC ((d, p, o) :: c) := by simp [nodesC]
      have xp : f a 24 ≠ some p := fun e => h2.2.2 p (xin p e) p (by simp [hpn]) rfl
      obtain ⟨s1, s2, s3⟩ := rotL_p hp (nk p (.inr (.inr (.inr hpn)))) (na p (.inr (.inr (.inr hpn)))) xp
      have hpo : ∀ i, (i ∈ io o ∨ i ∈ nodesC c) → i ≠ p := by
        intro i hi e
        have h4 := (List.nodup_cons.1 h3.2.1).1
        subst e
        exact h4 (by simpa using hi)
      have n_o : ∀ i, (i ∈ io o ∨ i ∈ nodesC c) → ∀ o', rotL f a k i o' = f i o' := by
        intro i hi o'
        have hin : i ∈ nodesC ((d, p, o) :: c) := by simp only [nodesC, List.mem_cons, List.mem_append]; exact Or.inr hi
        refine rotL_other (nk i (.inr (.inr (.inr hin)))) (na i (.inr (.inr (.inr hin)))) (fun e => h2.2.2 i (xin i e) i (by simp [hin]) rfl) (fun e => ?_) o'
        rw [hp] at e
        exact hpo i hi (Option.some.inj e).symm
      have er : rootOf root (f k 22) a = root := by rw [hp]; rfl
      rw [er]
      refine ⟨s1.trans p22, ?_, ?_, IsT.congr _ _ (fun i hi => ⟨n_o i (.inl hi) _, n_o i (.inl hi) _, n_o i (.inl hi) _⟩) to, IsC.congr _ _ (fun i hi => ⟨n_o i (.inr hi) _, n_o i (.inr hi) _, n_o i (.inr hi) _⟩) hc⟩
      · rw [s2]
        cases d with
        | true =>
          have p23' : f p 23 = some k := p23
          rw [if_pos p23']; rfl
        | false =>
          have p23 : f p 23 = rt o := p23
          have : f p 23 ≠ some k := fun e => by
            rw [p23] at e
            exact nk k (.inr (.inr (.inr (by simp only [nodesC, List.mem_cons, List.mem_append]; exact Or.inr (Or.inl (rt_mem e)))))) rfl
          rw [if_neg this]; exact p23
      · rw [s3]
        cases d with
        | true =>
          have p23' : f p 23 = some k := p23
          rw [if_pos p23']; exact p24
        | false =>
          have p23 : f p 23 = rt o := p23
          have : f p 23 ≠ some k := fun e => by
            rw [p23] at e
            exact nk k (.inr (.inr (.inr (by simp only [nodesC, List.mem_cons, List.mem_append]; exact Or.inr (Or.inl (rt_mem e)))))) rfl
          rw [if_neg this]; rfl
  · -- the inner subtree, its root under k now
    cases ra with
    | nil => trivial
    | node x ox ux l' r' =>
      obtain ⟨x22, x23, x24, tl', tr'⟩ := tra
      have hx : f a 24 = some x := a24
      have hxin : x ∈ io (.node x ox ux l' r') := by simp [io]
      obtain ⟨s1, s2, s3⟩ := rotL_x (f := f) (nk x (.inr (.inl hxin))) (na x (.inr (.inl hxin))) hx (fun e => h2.2.2 x hxin x (by simp [pin x e]) rfl)
      have n_in : ∀ i, (i ∈ io l' ∨ i ∈ io r') → ∀ o', rotL f a k i o' = f i o' := by
        intro i hi o'
        have hin : i ∈ io (.node x ox ux l' r') := by rcases hi with hi | hi <;> simp [io, hi]
        refine rotL_other (nk i (.inr (.inl hin))) (na i (.inr (.inl hin))) (fun e => ?_) (fun e => h2.2.2 i hin i (by simp [pin i e]) rfl) o'
        have hxi : x = i := Option.some.inj (hx.symm.trans e)
        subst hxi
        have hn := h2.1
        simp only [io] at hn
        have hn' := List.nodup_append.1 hn
        rcases hi with hi | hi
        · exact hn'.2.2 x hi x (by simp) rfl
        · exact (List.nodup_cons.1 hn'.2.1).1 hi
      exact ⟨s1, s2.trans x23, s3.trans x24, IsT.congr _ _ (fun i hi => ⟨n_in i (.inl hi) _, n_in i (.inl hi) _, n_in i (.inl hi) _⟩) tl', IsT.congr _ _ (fun i hi => ⟨n_in i (.inr hi) _, n_in i (.inr hi) _, n_in i (.inr hi) _⟩) tr'⟩
  · refine (List.Perm.nodup_iff (List.perm_iff_count.2 fun x => ?_)).1 hnd'
    simp only [io, nodesC, List.count_append, List.count_cons]
    omega

/-! ### The mirror image: the right child goes up -/
theorem rotR_eq (f : Nat → Nat → Option Nat) (a k i o : Nat) : rotR f a k i o = if i = k ∧ o = 22 then some a else if i = a ∧ o = 22 then f k 22 else repF (rot1R f a k) (f k 22) k (some a) i o := rfl
theorem rot1R_eq (f : Nat → Nat → Option Nat) (a k i o : Nat) : rot1R f a k i o = if f a 23 = some i ∧ o = 22 then some k else if i = a ∧ o = 23 then some k else if i = k ∧ o = 24 then f a 23 else f i o := by
  unfold rot1R
  cases e : f a 23 with
  | none => simp [upd]
  | some x =>
    by_cases h : i = x ∧ o = 22
    · obtain ⟨rfl, rfl⟩ := h; simp [upd]
    · have h' : ¬ (some x = some i ∧ o = 22) := fun h' => h ⟨(Option.some.inj h'.1).symm, h'.2⟩
      simp only [upd]
      rw [if_neg h, if_neg h']
theorem rotR_other {f : Nat → Nat → Option Nat} {a k i : Nat} (h1 : i ≠ k) (h2 : i ≠ a) (h3 : f a 23 ≠ some i) (h4 : f k 22 ≠ some i) (o : Nat) : rotR f a k i o = f i o := by
  rw [rotR_eq, if_neg (fun h => h1 h.1), if_neg (fun h => h2 h.1), repF_eq, if_neg (fun h => h4 h.1), rot1R_eq, if_neg (fun h => h3 h.1), if_neg (fun h => h2 h.1), if_neg (fun h => h1 h.1)]
theorem rotR_x {f : Nat → Nat → Option Nat} {a k i : Nat} (h1 : i ≠ k) (h2 : i ≠ a) (h3 : f a 23 = some i) (h4 : f k 22 ≠ some i) : rotR f a k i 22 = some k ∧ rotR f a k i 23 = f i 23 ∧ rotR f a k i 24 = f i 24 := by
  refine ⟨?_, ?_, ?_⟩ <;> rw [rotR_eq, if_neg (fun h => h1 h.1), if_neg (fun h => h2 h.1), repF_eq, if_neg (fun h => h4 h.1), rot1R_eq]
  · rw [if_pos ⟨h3, rfl⟩]
  · rw [if_neg (by omega), if_neg (fun h => h2 h.1), if_neg (fun h => h1 h.1)]
  · rw [if_neg (by omega), if_neg (fun h => h2 h.1), if_neg (fun h => h1 h.1)]
theorem rotR_a {f : Nat → Nat → Option Nat} {a k : Nat} (h1 : a ≠ k) (h4 : f k 22 ≠ some a) : rotR f a k a 22 = f k 22 ∧ rotR f a k a 23 = some k ∧ rotR f a k a 24 = f a 24 := by
  refine ⟨?_, ?_, ?_⟩
  · rw [rotR_eq, if_neg (fun h => h1 h.1), if_pos ⟨rfl, rfl⟩]
  · rw [rotR_eq, if_neg (fun h => h1 h.1), if_neg (by omega), repF_eq, if_neg (fun h => h4 h.1), rot1R_eq, if_neg (by omega), if_pos ⟨rfl, rfl⟩]
  · rw [rotR_eq, if_neg (fun h => h1 h.1), if_neg (by omega), repF_eq, if_neg (fun h => h4 h.1), rot1R_eq, if_neg (by omega), if_neg (by omega), if_neg (fun h => h1 h.1)]
theorem rotR_k {f : Nat → Nat → Option Nat} {a k : Nat} (h1 : a ≠ k) (h4 : f k 22 ≠ some k) : rotR f a k k 22 = some a ∧ rotR f a k k 23 = f k 23 ∧ rotR f a k k 24 = f a 23 := by
  refine ⟨?_, ?_, ?_⟩
  · rw [rotR_eq, if_pos ⟨rfl, rfl⟩]
  · rw [rotR_eq, if_neg (by omega), if_neg (by omega), repF_eq, if_neg (fun h => h4 h.1), rot1R_eq, if_neg (by omega), if_neg (fun h => h1 h.1.symm), if_neg (by omega)]
  · rw [rotR_eq, if_neg (by omega), if_neg (by omega), repF_eq, if_neg (fun h => h4 h.1), rot1R_eq, if_neg (by omega), if_neg (by omega), if_pos ⟨rfl, rfl⟩]
theorem rotR_p {f : Nat → Nat → Option Nat} {a k p : Nat} (hp : f k 22 = some p) (h1 : p ≠ k) (h2 : p ≠ a) (h3 : f a 23 ≠ some p) :
    rotR f a k p 22 = f p 22 ∧ rotR f a k p 23 = (if f p 23 = some k then some a else f p 23) ∧ rotR f a k p 24 = (if f p 23 = some k then f p 24 else some a) := by
  have e : ∀ o, rot1R f a k p o = f p o := fun o => by rw [rot1R_eq, if_neg (fun h => h3 h.1), if_neg (fun h => h2 h.1), if_neg (fun h => h1 h.1)]
  refine ⟨?_, ?_, ?_⟩ <;> rw [rotR_eq, if_neg (fun h => h1 h.1), if_neg (fun h => h2 h.1), repF_eq] <;> simp only [e]
  · rw [if_neg (by omega)]
  · by_cases h : f p 23 = some k
    · rw [if_pos ⟨hp, Or.inl ⟨trivial, h⟩⟩, if_pos h]
    · rw [if_neg (fun h' => by rcases h'.2 with ⟨_, h''⟩ | ⟨h'', _⟩; exact h h''; omega), if_neg h]
  · by_cases h : f p 23 = some k
    · rw [if_neg (fun h' => by rcases h'.2 with ⟨h'', _⟩ | ⟨_, h''⟩; omega; exact h'' h), if_pos h]
    · rw [if_pos ⟨hp, Or.inr ⟨trivial, h⟩⟩, if_neg h]

theorem At.right {f : Nat → Nat → Option Nat} {root : Option Nat} {c : Ctx} {k a ok oa : Nat} {uk ua : Unit} {la ra l : BT Unit} (h : At f root c (.node k ok uk l (.node a oa ua la ra))) :
    At (rotR f a k) (rootOf root (f k 22) a) ((true, a, ra) :: c) (.node k 0 () l la) := by
  obtain ⟨hctx, ⟨k22, k23, k24, tl, ⟨a22, a23, a24, tla, tra⟩⟩, hnd⟩ := h
  have hnd' : (a :: k :: (io ra ++ (io la ++ (io l ++ nodesC c)))).Nodup := by
    refine (List.Perm.nodup_iff (List.perm_iff_count.2 fun x => ?_)).1 hnd
    simp only [io, List.count_append, List.count_cons]
    omega
  have ha := List.nodup_cons.1 hnd'
  have hk := List.nodup_cons.1 ha.2
  have h1 := List.nodup_append.1 hk.2
  have h2 := List.nodup_append.1 h1.2.1
  have h3 := List.nodup_append.1 h2.2.1
  have mem (i : Nat) : i ∈ io ra ++ (io la ++ (io l ++ nodesC c)) ↔ i ∈ io ra ∨ i ∈ io la ∨ i ∈ io l ∨ i ∈ nodesC c := by simp
  have hak : a ≠ k := fun e => ha.1 (by simp [e])
  have na : ∀ i, (i ∈ io ra ∨ i ∈ io la ∨ i ∈ io l ∨ i ∈ nodesC c) → i ≠ a := fun i hi e => ha.1 (by subst e; exact List.mem_cons_of_mem _ ((mem i).2 hi))
  have nk : ∀ i, (i ∈ io ra ∨ i ∈ io la ∨ i ∈ io l ∨ i ∈ nodesC c) → i ≠ k := fun i hi e => hk.1 (by subst e; exact (mem i).2 hi)
  have xin : ∀ i, f a 23 = some i → i ∈ io la := fun i hi => rt_mem (a23.symm.trans hi)
  have pin : ∀ i, f k 22 = some i → i ∈ nodesC c := by
    intro i hi
    rw [k22] at hi
    cases c with
    | nil => cases hi
    | cons q c => obtain ⟨d, j, o⟩ := q; simp [par] at hi; simp [nodesC, hi]
  have n_ra : ∀ i ∈ io ra, ∀ o, rotR f a k i o = f i o := fun i hi o => rotR_other (nk i (.inl hi)) (na i (.inl hi)) (fun e => h1.2.2 i hi i (by simp [xin i e]) rfl) (fun e => h1.2.2 i hi i (by simp [pin i e]) rfl) o
  have n_l : ∀ i ∈ io l, ∀ o, rotR f a k i o = f i o := fun i hi o => rotR_other (nk i (.inr (.inr (.inl hi)))) (na i (.inr (.inr (.inl hi)))) (fun e => h2.2.2 i (xin i e) i (by simp [hi]) rfl) (fun e => h3.2.2 i hi i (pin i e) rfl) o
  have pk : f k 22 ≠ some k := fun e => nk k (.inr (.inr (.inr (pin k e)))) rfl
  have pa : f k 22 ≠ some a := fun e => na a (.inr (.inr (.inr (pin a e)))) rfl
  obtain ⟨r1, r2, r3⟩ := rotR_a (f := f) hak pa
  obtain ⟨q1, q2, q3⟩ := rotR_k (f := f) hak pk
  refine ⟨⟨r1.trans k22, by rw [r2]; rfl, by rw [r3, a24]; rfl, IsT.congr _ _ (fun i hi => ⟨n_ra i hi _, n_ra i hi _, n_ra i hi _⟩) tra, ?_⟩, ⟨q1, q2.trans k23, q3.trans a23, IsT.congr _ _ (fun i hi => ⟨n_l i hi _, n_l i hi _, n_l i hi _⟩) tl, ?_⟩, ?_⟩
  · -- the way up
    cases c with
    | nil =>
      have : f k 22 = none := k22
      simp [IsC, rootOf, this]
    | cons q c =>
      obtain ⟨d, p, o⟩ := q
      obtain ⟨p22, p23, p24, to, hc⟩ := hctx
      have hp : f k 22 = some p := k22
      have hpn : p ∈ nodesC ((d, p, o) :: c) := by simp [nodesC]
      have xp : f a 23 ≠ some p := fun e => h2.2.2 p (xin p e) p (by simp [hpn]) rfl
      obtain ⟨s1, s2, s3⟩ := rotR_p hp (nk p (.inr (.inr (.inr hpn)))) (na p (.inr (.inr (.inr hpn)))) xp
      have hpo : ∀ i, (i ∈ io o ∨ i ∈ nodesC c) → i ≠ p := by
        intro i hi e
        have h4 := (List.nodup_cons.1 h3.2.1).1
        subst e
        exact h4 (by simpa using hi)
      have n_o : ∀ i, (i ∈ io o ∨ i ∈ nodesC c) → ∀ o', rotR f a k i o' = f i o' := by
        intro i hi o'
        have hin : i ∈ nodesC ((d, p, o) :: c) := by simp only [nodesC, List.mem_cons, List.mem_append]; exact Or.inr hi
        refine rotR_other (nk i (.inr (.inr (.inr hin)))) (na i (.inr (.inr (.inr hin)))) (fun e => h2.2.2 i (xin i e) i (by simp [hin]) rfl) (fun e => ?_) o'
        rw [hp] at e
        exact hpo i hi (Option.some.inj e).symm
      have er : rootOf root (f k 22) a = root := by rw [hp]; rfl
      rw [er]
      refine ⟨s1.trans p22, ?_, ?_, IsT.congr _ _ (fun i hi => ⟨n_o i (.inl hi) _, n_o i (.inl hi) _, n_o i (.inl hi) _⟩) to, IsC.congr _ _ (fun i hi => ⟨n_o i (.inr hi) _, n_o i (.inr hi) _, n_o i (.inr hi) _⟩) hc⟩
      · rw [s2]
        cases d with
        | true =>
          have p23' : f p 23 = some k := p23
          rw [if_pos p23']; rfl
        | false =>
          have p23 : f p 23 = rt o := p23
          have : f p 23 ≠ some k := fun e => by
            rw [p23] at e
            exact nk k (.inr (.inr (.inr (by simp only [nodesC, List.mem_cons, List.mem_append]; exact Or.inr (Or.inl (rt_mem e)))))) rfl
          rw [if_neg this]; exact p23
      · rw [s3]
        cases d with
        | true =>
          have p23' : f p 23 = some k := p23
          rw [if_pos p23']; exact p24
        | false =>
          have p23 : f p 23 = rt o := p23
          have : f p 23 ≠ some k := fun e => by
            rw [p23] at e
            exact nk k (.inr (.inr (.inr (by simp only [nodesC, List.mem_cons, List.mem_append]; exact Or.inr (Or.inl (rt_mem e)))))) rfl
          rw [if_neg this]; rfl
  · -- the inner subtree, its root under k now
    cases la with
    | nil => trivial
    | node x ox ux l' r' =>
      obtain ⟨x22, x23, x24, tl', tr'⟩ := tla
      have hx : f a 23 = some x := a23
      have hxin : x ∈ io (.node x ox ux l' r') := by simp [io]
      obtain ⟨s1, s2, s3⟩ := rotR_x (f := f) (nk x (.inr (.inl hxin))) (na x (.inr (.inl hxin))) hx (fun e => h2.2.2 x hxin x (by simp [pin x e]) rfl)
      have n_in : ∀ i, (i ∈ io l' ∨ i ∈ io r') → ∀ o', rotR f a k i o' = f i o' := by
        intro i hi o'
        have hin : i ∈ io (.node x ox ux l' r') := by rcases hi with hi | hi <;> simp [io, hi]
        refine rotR_other (nk i (.inr (.inl hin))) (na i (.inr (.inl hin))) (fun e => ?_) (fun e => h2.2.2 i hin i (by simp [pin i e]) rfl) o'
        have hxi : x = i := Option.some.inj (hx.symm.trans e)
        subst hxi
        have hn := h2.1
        simp only [io] at hn
        have hn' := List.nodup_append.1 hn
        rcases hi with hi | hi
        · exact hn'.2.2 x hi x (by simp) rfl
        · exact (List.nodup_cons.1 hn'.2.1).1 hi
      exact ⟨s1, s2.trans x23, s3.trans x24, IsT.congr _ _ (fun i hi => ⟨n_in i (.inl hi) _, n_in i (.inl hi) _, n_in i (.inl hi) _⟩) tl', IsT.congr _ _ (fun i hi => ⟨n_in i (.inr hi) _, n_in i (.inr hi) _, n_in i (.inr hi) _⟩) tr'⟩
  · refine (List.Perm.nodup_iff (List.perm_iff_count.2 fun x => ?_)).1 hnd'
    simp only [io, nodesC, List.count_append, List.count_cons]
    omega
end Go.Proofs.YbulkanmgRR
