import Derived.Test.YbulkanmgRRUnwait
import Derived.Test.YbulkanmgRRCheck
import Derived.Test.YbulkanmgRRSetup
namespace Go.Proofs.YbulkanmgRR
set_option linter.unusedVariables false
set_option linter.unusedSimpArgs false

theorem unF_15 (f : Nat → Nat → Option Nat) (k i : Nat) (hi : i ≠ k) : unF f k i 15 = if f k 14 = some i then f k 15 else f i 15 := by
  unfold unF
  cases e14 : f k 14 with
  | none =>
    cases e15 : f k 15 with
    | none => simp [upd, hi]
    | some q => simp [upd, hi]
  | some p =>
    cases e15 : f k 15 with
    | none =>
      by_cases h : i = p
      · subst h; simp [upd, hi]
      · rw [if_neg (fun e => h (Option.some.inj e).symm)]; simp [upd, hi, h]
    | some q =>
      by_cases h : i = p
      · subst h; simp [upd, hi]
      · rw [if_neg (fun e => h (Option.some.inj e).symm)]; simp [upd, hi, h]

theorem unF_14 (f : Nat → Nat → Option Nat) (k i : Nat) (hi : i ≠ k) : unF f k i 14 = if f k 15 = some i then f k 14 else f i 14 := by
  unfold unF
  cases e14 : f k 14 with
  | none =>
    cases e15 : f k 15 with
    | none => simp [upd, hi]
    | some q =>
      by_cases h : i = q
      · subst h; simp [upd, hi]
      · rw [if_neg (fun e => h (Option.some.inj e).symm)]; simp [upd, hi, h]
  | some p =>
    cases e15 : f k 15 with
    | none => simp [upd, hi]
    | some q =>
      by_cases h : i = q
      · subst h; simp [upd, hi]
      · rw [if_neg (fun e => h (Option.some.inj e).symm)]; simp [upd, hi, h]

theorem unF_k14 (f : Nat → Nat → Option Nat) (k : Nat) : unF f k k 14 = none := by simp [unF, upd]
theorem unF_k15 (f : Nat → Nat → Option Nat) (k : Nat) : unF f k k 15 = none := by simp [unF, upd]
theorem unF_other (f : Nat → Nat → Option Nat) (k i o : Nat) (h1 : o ≠ 14) (h2 : o ≠ 15) : unF f k i o = f i o := by
  unfold unF
  cases f k 14 <;> cases f k 15 <;> simp [upd, h1, h2]
theorem unG_6 (f : Nat → Nat → Option Nat) (g : Nat → Option Nat) (k : Nat) : unG f g k 6 = if f k 14 = none then f k 15 else g 6 := by
  unfold unG
  cases f k 14 <;> cases f k 15 <;> simp [upd1]
theorem unG_7 (f : Nat → Nat → Option Nat) (g : Nat → Option Nat) (k : Nat) : unG f g k 7 = if f k 15 = none then f k 14 else g 7 := by
  unfold unG
  cases f k 14 <;> cases f k 15 <;> simp [upd1]
theorem unG_8 (f : Nat → Nat → Option Nat) (g : Nat → Option Nat) (k : Nat) : unG f g k 8 = g 8 := by
  unfold unG
  cases f k 14 <;> cases f k 15 <;> simp [upd1]

theorem chain_14 (m i : Nat) (hi : i < m + 1) : chain (m + 1) (m + 1) i 14 = if 0 < i then some (i - 1) else none := by simp [chain, hi]
theorem chain_15 (m i : Nat) (hi : i < m + 1) : chain (m + 1) (m + 1) i 15 = if i < m then some (i + 1) else none := by simp [chain, hi]

/-- The transactions form one list, in their order. -/
structure Chained (f : Nat → Nat → Option Nat) (m : Nat) : Prop where
  f14 : ∀ i, i < m + 1 → f i 14 = if 0 < i then some (i - 1) else none
  f15 : ∀ i, i < m + 1 → f i 15 = if i < m then some (i + 1) else none

theorem prev_ok {f : Nat → Nat → Option Nat} {m k : Nat} (hk : k < m + 1) (hc : Chained f m) : ∀ p, f k 14 = some p → p < m + 1 ∧ p ≠ k := by
  intro p hp
  rw [hc.f14 k hk] at hp
  split at hp
  · injection hp with hp; omega
  · cases hp
theorem next_ok {f : Nat → Nat → Option Nat} {m k : Nat} (hk : k < m + 1) (hc : Chained f m) : ∀ p, f k 15 = some p → p < m + 1 ∧ p ≠ k := by
  intro p hp
  rw [hc.f15 k hk] at hp
  split at hp
  · injection hp with hp; omega
  · cases hp

theorem law_head {f : Nat → Nat → Option Nat} {g : Nat → Option Nat} {m k : Nat} (hk : k < m + 1) (hc : Chained f m) (g6 : g 6 = some 0) : unG f g k 6 = nth k m 0 := by
  rw [unG_6, hc.f14 k hk, hc.f15 k hk, g6]
  unfold nth ek
  by_cases h0 : 0 < k
  · simp [h0, show 0 < m by omega]
  · have : k = 0 := by omega
    subst this
    simp

theorem law_tail {f : Nat → Nat → Option Nat} {g : Nat → Option Nat} {m k : Nat} (hk : k < m + 1) (hc : Chained f m) (g7 : g 7 = some m) : unG f g k 7 = prv k m := by
  rw [unG_7, hc.f14 k hk, hc.f15 k hk, g7]
  unfold prv ek
  by_cases h : k < m
  · simp [h, show m ≠ 0 by omega, show ¬ m - 1 < k by omega, show m - 1 + 1 = m by omega]
  · have hkm : k = m := by omega
    subst hkm
    by_cases h0 : 0 < k
    · simp [h0, show k ≠ 0 by omega, show k - 1 < k by omega]
    · simp [show k = 0 by omega]

theorem law_next {f : Nat → Nat → Option Nat} {m k : Nat} (hk : k < m + 1) (hc : Chained f m) : ∀ j, j < m → unF f k (ek k j) 15 = nth k m (j + 1) := by
  intro j hj
  have hne : ek k j ≠ k := by unfold ek; split <;> omega
  rw [unF_15 f k _ hne, hc.f14 k hk, hc.f15 k hk, hc.f15 _ (ek_lt hk hj)]
  unfold nth ek
  by_cases h1 : j < k
  · rw [if_pos h1]
    by_cases h2 : j + 1 = k
    · subst h2
      by_cases h3 : j + 1 < m
      · simp [h3]
      · simp [h3]
    · rw [if_pos (show 0 < k by omega), if_neg (show ¬ some (k - 1) = some j by intro e; injection e with e; omega), if_pos (show j < m by omega), if_pos (show j + 1 < m by omega), if_pos (show j + 1 < k by omega)]
  · rw [if_neg h1, if_neg (show ¬ j + 1 < k by omega)]
    have h4 : ¬ (if 0 < k then some (k - 1) else none) = some (j + 1) := by
      split
      · intro e; injection e with e; omega
      · intro e; cases e
    rw [if_neg h4]

theorem law_prev {f : Nat → Nat → Option Nat} {m k : Nat} (hk : k < m + 1) (hc : Chained f m) : ∀ j, j < m → unF f k (ek k j) 14 = prv k j := by
  intro j hj
  have hne : ek k j ≠ k := by unfold ek; split <;> omega
  rw [unF_14 f k _ hne, hc.f14 k hk, hc.f15 k hk, hc.f14 _ (ek_lt hk hj)]
  unfold prv ek
  by_cases h1 : j < k
  · rw [if_pos h1]
    have h4 : ¬ (if k < m then some (k + 1) else none) = some j := by
      split
      · intro e; injection e with e; omega
      · intro e; cases e
    rw [if_neg h4]
    by_cases h0 : j = 0
    · simp [h0]
    · rw [if_pos (by omega), if_neg h0, if_pos (by omega)]
  · rw [if_neg h1]
    by_cases h2 : j = k
    · subst h2
      rw [if_pos (show j < m by omega), if_pos rfl]
      by_cases h0 : j = 0
      · simp [h0]
      · rw [if_pos (by omega), if_neg h0, if_pos (by omega)]
    · have h4 : ¬ (if k < m then some (k + 1) else none) = some (j + 1) := by
        split
        · intro e; injection e with e; omega
        · intro e; cases e
      rw [if_neg h4, if_pos (by omega), if_neg (show ¬ j = 0 by omega), if_neg (by omega)]
      congr 1
      omega
end Go.Proofs.YbulkanmgRR
