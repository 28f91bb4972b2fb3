import Derived.Test.YbulkanmgRRTurn
namespace Go.Proofs.YbulkanmgRR
set_option linter.unusedVariables false
set_option linter.unusedSimpArgs false
open Go.Deep

/-- The links behind the last part of 'uproot': child in k's place, k's node cleared. -/
def drop1 (f : Nat → Nat → Option Nat) (k : Nat) (ch : Option Nat) : Nat → Nat → Option Nat := match ch with | none => f | some x => upd f x 22 (f k 22)
def dropF (f : Nat → Nat → Option Nat) (k : Nat) (ch : Option Nat) : Nat → Nat → Option Nat :=
  upd (upd (upd (repF (drop1 f k ch) (f k 22) k ch) k 22 none) k 23 none) k 24 none
def rootCh (root pp ch : Option Nat) : Option Nat := match pp with | none => ch | some _ => root

theorem drop1_eq (f : Nat → Nat → Option Nat) (k : Nat) (ch : Option Nat) (i o : Nat) : drop1 f k ch i o = if ch = some i ∧ o = 22 then f k 22 else f i o := by
  unfold drop1
  cases ch with
  | none => simp
  | some x =>
    by_cases h : i = x
    · subst h; simp [upd]
    · have h' : ¬ some x = some i := fun h' => h (Option.some.inj h').symm
      simp [upd, h, h']
theorem dropF_ne {f : Nat → Nat → Option Nat} {k : Nat} {ch : Option Nat} {i : Nat} (h : i ≠ k) (o : Nat) : dropF f k ch i o = repF (drop1 f k ch) (f k 22) k ch i o := by
  simp [dropF, upd, h]
theorem dropF_other {f : Nat → Nat → Option Nat} {k i : Nat} {ch : Option Nat} (h1 : i ≠ k) (h3 : ch ≠ some i) (h4 : f k 22 ≠ some i) (o : Nat) : dropF f k ch i o = f i o := by
  rw [dropF_ne h1, repF_eq, if_neg (fun h => h4 h.1), drop1_eq, if_neg (fun h => h3 h.1)]
theorem dropF_x {f : Nat → Nat → Option Nat} {k i : Nat} {ch : Option Nat} (h1 : i ≠ k) (h3 : ch = some i) (h4 : f k 22 ≠ some i) : dropF f k ch i 22 = f k 22 ∧ dropF f k ch i 23 = f i 23 ∧ dropF f k ch i 24 = f i 24 := by
  refine ⟨?_, ?_, ?_⟩ <;> rw [dropF_ne h1, repF_eq, if_neg (fun h => h4 h.1), drop1_eq]
  · rw [if_pos ⟨h3, rfl⟩]
  · rw [if_neg (by omega)]
  · rw [if_neg (by omega)]
theorem dropF_p {f : Nat → Nat → Option Nat} {k p : Nat} {ch : Option Nat} (hp : f k 22 = some p) (h1 : p ≠ k) (h3 : ch ≠ some p) :
    dropF f k ch p 22 = f p 22 ∧ dropF f k ch p 23 = (if f p 23 = some k then ch else f p 23) ∧ dropF f k ch p 24 = (if f p 23 = some k then f p 24 else ch) := by
  have e : ∀ o, drop1 f k ch p o = f p o := fun o => by rw [drop1_eq, if_neg (fun h => h3 h.1)]
  refine ⟨?_, ?_, ?_⟩ <;> rw [dropF_ne h1, repF_eq] <;> simp only [e]
  · rw [if_neg (by omega)]
  · by_cases h : f p 23 = some k
    · rw [if_pos ⟨hp, Or.inl ⟨trivial, h⟩⟩, if_pos h]
    · rw [if_neg (fun h' => by rcases h'.2 with ⟨_, h''⟩ | ⟨h'', _⟩; exact h h''; omega), if_neg h]
  · by_cases h : f p 23 = some k
    · rw [if_neg (fun h' => by rcases h'.2 with ⟨h'', _⟩ | ⟨_, h''⟩; omega; exact h'' h), if_pos h]
    · rw [if_pos ⟨hp, Or.inr ⟨trivial, h⟩⟩, if_neg h]
theorem dropF_k (f : Nat → Nat → Option Nat) (k : Nat) (ch : Option Nat) : dropF f k ch k 22 = none ∧ dropF f k ch k 23 = none ∧ dropF f k ch k 24 = none := by simp [dropF, upd]

/-- The node k, which has at most the one child t, goes; t comes in its place. -/
theorem At.gone {f : Nat → Nat → Option Nat} {root : Option Nat} {c : Ctx} {k ok : Nat} {uk : Unit} {l r t : BT Unit} (h : At f root c (.node k ok uk l r)) (ht : (l = .nil ∧ t = r) ∨ (r = .nil ∧ t = l)) :
    At (dropF f k (rt t)) (rootCh root (f k 22) (rt t)) c t ∧ io (.node k ok uk l r) = io l ++ k :: io r ∧ k ∉ io t ++ nodesC c := by
  obtain ⟨hctx, ⟨k22, k23, k24, tl, tr⟩, hnd⟩ := h
  have hnd' : (k :: (io t ++ nodesC c)).Nodup := by
    refine (List.Perm.nodup_iff (List.perm_iff_count.2 fun x => ?_)).1 hnd
    rcases ht with ⟨rfl, rfl⟩ | ⟨rfl, rfl⟩ <;> simp only [io, List.count_append, List.count_cons, List.count_nil] <;> omega
  have tt : IsT f t (some k) := by rcases ht with ⟨rfl, rfl⟩ | ⟨rfl, rfl⟩ <;> assumption
  have hk := List.nodup_cons.1 hnd'
  have h1 := List.nodup_append.1 hk.2
  have nk : ∀ i, (i ∈ io t ∨ i ∈ nodesC c) → i ≠ k := fun i hi e => hk.1 (by subst e; simpa using hi)
  have pin : ∀ i, f k 22 = some i → i ∈ nodesC c := by
    intro i hi
    rw [k22] at hi
    cases c with
    | nil => cases hi
    | cons q c => obtain ⟨d, j, o⟩ := q; simp [par] at hi; simp [nodesC, hi]
  refine ⟨⟨?_, ?_, hk.2⟩, rfl, hk.1⟩
  · cases c with
    | nil =>
      have : f k 22 = none := k22
      simp [IsC, rootCh, this]
    | cons q c =>
      obtain ⟨d, p, o⟩ := q
      obtain ⟨p22, p23, p24, to, hc⟩ := hctx
      have hp : f k 22 = some p := k22
      have hpn : p ∈ nodesC ((d, p, o) :: c) := by simp [nodesC]
      have xp : rt t ≠ some p := fun e => h1.2.2 p (rt_mem e) p hpn rfl
      obtain ⟨s1, s2, s3⟩ := dropF_p hp (nk p (.inr hpn)) xp
      have hpo : ∀ i, (i ∈ io o ∨ i ∈ nodesC c) → i ≠ p := by
        intro i hi e
        have h4 := (List.nodup_cons.1 h1.2.1).1
        subst e
        exact h4 (by simpa using hi)
      have n_o : ∀ i, (i ∈ io o ∨ i ∈ nodesC c) → ∀ o', dropF f k (rt t) i o' = f i o' := by
        intro i hi o'
        have hin : i ∈ nodesC ((d, p, o) :: c) := by simp only [nodesC, List.mem_cons, List.mem_append]; exact Or.inr hi
        refine dropF_other (nk i (.inr hin)) (fun e => h1.2.2 i (rt_mem e) i hin rfl) (fun e => ?_) o'
        rw [hp] at e
        exact hpo i hi (Option.some.inj e).symm
      have er : rootCh root (f k 22) (rt t) = root := by rw [hp]; rfl
      rw [er]
      refine ⟨s1.trans p22, ?_, ?_, IsT.congr _ _ (fun i hi => ⟨n_o i (.inl hi) _, n_o i (.inl hi) _, n_o i (.inl hi) _⟩) to, IsC.congr _ _ (fun i hi => ⟨n_o i (.inr hi) _, n_o i (.inr hi) _, n_o i (.inr hi) _⟩) hc⟩
      · rw [s2]
        cases d with
        | true =>
          have p23' : f p 23 = some k := p23
          rw [if_pos p23']; rfl
        | false =>
          have p23 : f p 23 = rt o := p23
          have : f p 23 ≠ some k := fun e => by
            rw [p23] at e
            exact nk k (.inr (by simp only [nodesC, List.mem_cons, List.mem_append]; exact Or.inr (Or.inl (rt_mem e)))) rfl
          rw [if_neg this]; exact p23
      · rw [s3]
        cases d with
        | true =>
          have p23' : f p 23 = some k := p23
          rw [if_pos p23']; exact p24
        | false =>
          have p23 : f p 23 = rt o := p23
          have : f p 23 ≠ some k := fun e => by
            rw [p23] at e
            exact nk k (.inr (by simp only [nodesC, List.mem_cons, List.mem_append]; exact Or.inr (Or.inl (rt_mem e)))) rfl
          rw [if_neg this]; rfl
  · cases t with
    | nil => trivial
    | node x ox ux l' r' =>
      obtain ⟨x22, x23, x24, tl', tr'⟩ := tt
      have hxin : x ∈ io (.node x ox ux l' r') := by simp [io]
      obtain ⟨s1, s2, s3⟩ := dropF_x (f := f) (ch := some x) (nk x (.inl hxin)) rfl (fun e => h1.2.2 x hxin x (pin x e) rfl)
      have n_in : ∀ i, (i ∈ io l' ∨ i ∈ io r') → ∀ o', dropF f k (some x) i o' = f i o' := by
        intro i hi o'
        have hin : i ∈ io (.node x ox ux l' r') := by rcases hi with hi | hi <;> simp [io, hi]
        refine dropF_other (nk i (.inl hin)) (fun e => ?_) (fun e => h1.2.2 i hin i (pin i e) rfl) o'
        have hxi : x = i := Option.some.inj e
        subst hxi
        have hn := h1.1
        simp only [io] at hn
        have hn' := List.nodup_append.1 hn
        rcases hi with hi | hi
        · exact hn'.2.2 x hi x (by simp) rfl
        · exact (List.nodup_cons.1 hn'.2.1).1 hi
      exact ⟨s1.trans k22, s2.trans x23, s3.trans x24, IsT.congr _ _ (fun i hi => ⟨n_in i (.inl hi) _, n_in i (.inl hi) _, n_in i (.inl hi) _⟩) tl', IsT.congr _ _ (fun i hi => ⟨n_in i (.inr hi) _, n_in i (.inr hi) _, n_in i (.inr hi) _⟩) tr'⟩

/-- What stands around a node: its parent, its parent's left child. -/
theorem At.parent {f : Nat → Nat → Option Nat} {root : Option Nat} {c : Ctx} {t : BT Unit} {k : Nat} (h : At f root c t) (hk : rt t = some k) : ∀ p, f k 22 = some p → p ∈ nodesC c ∧ ∀ j, f p 23 = some j → j ∈ io t ∨ j ∈ nodesC c := by
  intro p hp
  cases t with
  | nil => cases hk
  | node k' ok uk l r =>
    obtain rfl : k' = k := Option.some.inj hk
    rw [h.tree.1] at hp
    cases c with
    | nil => cases hp
    | cons q c =>
      obtain ⟨d, p', o⟩ := q
      obtain rfl : p' = p := Option.some.inj hp
      refine ⟨by simp [nodesC], fun j hj => ?_⟩
      have := h.ctx.2.1
      rw [this] at hj
      cases d with
      | true =>
        obtain rfl : k' = j := Option.some.inj hj
        exact Or.inl (by simp [io])
      | false => exact Or.inr (by simp only [nodesC, List.mem_cons, List.mem_append]; exact Or.inr (Or.inl (rt_mem hj)))

/-- All that a turn of the left child asks. -/
theorem At.sideL {f : Nat → Nat → Option Nat} {root : Option Nat} {c : Ctx} {k a ok oa n : Nat} {uk ua : Unit} {la ra r : BT Unit} (h : At f root c (.node k ok uk (.node a oa ua la ra) r)) (hr : ∀ i, i ∈ wrap c (io (.node k ok uk (.node a oa ua la ra) r)) → i < n) :
    a < n ∧ k < n ∧ a ≠ k ∧ f a 22 = some k ∧ f k 23 = some a ∧ (∀ x, f a 24 = some x → x < n ∧ x ≠ k) ∧ ∀ p, f k 22 = some p → p < n ∧ p ≠ k ∧ ∀ j, rot1L f a k p 23 = some j → j < n := by
  have hin : ∀ i, (i ∈ io (.node k ok uk (.node a oa ua la ra) r) ∨ i ∈ nodesC c) → i < n := fun i hi => hr i (mem_wrap.2 hi)
  have hnd := List.nodup_append.1 h.nodup
  have hndk := hnd.1
  simp only [io] at hndk
  have hnk := List.nodup_append.1 hndk
  have hpar := h.parent rfl
  obtain ⟨k22, k23, k24, ⟨a22, a23, a24, tla, tra⟩, tr⟩ := h.tree
  have hak : a ≠ k := fun e => hnk.2.2 a (by simp) k (by simp) e
  refine ⟨hin a (.inl (by simp [io])), hin k (.inl (by simp [io])), hak, a22, k23, fun x hx => ?_, fun p hp => ?_⟩
  · have hx' := rt_mem (a24.symm.trans hx)
    exact ⟨hin x (.inl (by simp [io, hx'])), fun e => hnk.2.2 x (by simp [hx']) k (by simp) e⟩
  · obtain ⟨h1, h2⟩ := hpar p hp
    have hpk : p ≠ k := fun e => hnd.2.2 k (by simp [io]) p h1 e.symm
    have hpa : p ≠ a := fun e => hnd.2.2 a (by simp [io]) p h1 e.symm
    have hpx : f a 24 ≠ some p := fun e => hnd.2.2 p (by simp [io, rt_mem (a24.symm.trans e)]) p h1 rfl
    refine ⟨hin p (.inr h1), hpk, fun j hj => ?_⟩
    rw [rot1L_eq, if_neg (fun h => hpx h.1), if_neg (fun h => hpa h.1), if_neg (fun h => hpk h.1)] at hj
    exact hin j (h2 j hj)

theorem At.sideR {f : Nat → Nat → Option Nat} {root : Option Nat} {c : Ctx} {k a ok oa n : Nat} {uk ua : Unit} {la ra l : BT Unit} (h : At f root c (.node k ok uk l (.node a oa ua la ra))) (hr : ∀ i, i ∈ wrap c (io (.node k ok uk l (.node a oa ua la ra))) → i < n) :
    a < n ∧ k < n ∧ a ≠ k ∧ f a 22 = some k ∧ f k 24 = some a ∧ (∀ j, f k 23 = some j → j < n ∧ j ≠ a) ∧ (∀ x, f a 23 = some x → x < n ∧ x ≠ k) ∧ ∀ p, f k 22 = some p → p < n ∧ p ≠ k ∧ ∀ j, rot1R f a k p 23 = some j → j < n := by
  have hin : ∀ i, (i ∈ io (.node k ok uk l (.node a oa ua la ra)) ∨ i ∈ nodesC c) → i < n := fun i hi => hr i (mem_wrap.2 hi)
  have hnd := List.nodup_append.1 h.nodup
  have hndk := hnd.1
  simp only [io] at hndk
  have hnk := List.nodup_append.1 hndk
  have hkr := (List.nodup_cons.1 hnk.2.1).1
  have hpar := h.parent rfl
  obtain ⟨k22, k23, k24, tl, ⟨a22, a23, a24, tla, tra⟩⟩ := h.tree
  have hak : a ≠ k := fun e => hkr (by simp [e])
  refine ⟨hin a (.inl (by simp [io])), hin k (.inl (by simp [io])), hak, a22, k24, fun j hj => ?_, fun x hx => ?_, fun p hp => ?_⟩
  · have hj' := rt_mem (k23.symm.trans hj)
    exact ⟨hin j (.inl (by simp [io, hj'])), fun e => hnk.2.2 j hj' a (by simp) e⟩
  · have hx' := rt_mem (a23.symm.trans hx)
    exact ⟨hin x (.inl (by simp [io, hx'])), fun e => hkr (by subst e; simp [hx'])⟩
  · obtain ⟨h1, h2⟩ := hpar p hp
    have hpk : p ≠ k := fun e => hnd.2.2 k (by simp [io]) p h1 e.symm
    have hpa : p ≠ a := fun e => hnd.2.2 a (by simp [io]) p h1 e.symm
    have hpx : f a 23 ≠ some p := fun e => hnd.2.2 p (by simp [io, rt_mem (a23.symm.trans e)]) p h1 rfl
    refine ⟨hin p (.inr h1), hpk, fun j hj => ?_⟩
    rw [rot1R_eq, if_neg (fun h => hpx h.1), if_neg (fun h => hpa h.1), if_neg (fun h => hpk h.1)] at hj
    exact hin j (h2 j hj)
end Go.Proofs.YbulkanmgRR
