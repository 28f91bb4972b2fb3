import Derived.Test.YbulkanmgRRCede
namespace Go.Proofs.YbulkanmgRR
set_option linter.unusedVariables false
set_option linter.unusedSimpArgs false
open Go.RowKit

/-- A part: its sets, what it may keep. -/
structure Pt where
  q : Option Addr
  len : Nat
  cap : Nat
  L : Int
  aS : Int
  aL : Int

def PartAt (f : Nat → Option Value) (i : Nat) (p : Pt) : Prop := Part f (i * 78) p.q p.len p.cap p.L p.aS p.aL

structure Fit (p : Pt) : Prop where
  len : p.len ≤ 1000
  L0 : 0 ≤ p.L
  LA : p.L ≤ p.aL
  A : p.aL ≤ 1000000
  S : max (p.len : Int) 1 ≤ p.aS
  S1 : p.aS ≤ 1000000

def roomS (p : Pt) : Int := p.aS - max (p.len : Int) 1
def roomL (p : Pt) : Int := p.aL - p.L

def sumO (h : Nat) (r : Nat → Int) : Nat → Int
  | 0 => 0
  | k + 1 => sumO h r k + if k = h then 0 else r k

theorem sumO_congr (h : Nat) (r s : Nat → Int) (n : Nat) (e : ∀ i, i < n → i ≠ h → r i = s i) : sumO h r n = sumO h s n := by
  induction n with
  | zero => rfl
  | succ k ih =>
    simp only [sumO]
    rw [ih (fun i hi hn => e i (by omega) hn)]
    by_cases hk : k = h
    · simp [hk]
    · simp [hk, e k (by omega) hk]

theorem sumO_upd (h : Nat) (r : Nat → Int) (x : Nat) (v : Int) (n : Nat) (hx : x < n) (hn : x ≠ h) : sumO h (fun i => if i = x then v else r i) n = sumO h r n - r x + v := by
  induction n with
  | zero => omega
  | succ k ih =>
    simp only [sumO]
    by_cases e : k = x
    · subst e
      rw [sumO_congr h (fun i => if i = k then v else r i) r k (fun i hi _ => by simp; omega)]
      simp [hn]
    · rw [ih (by omega)]
      simp [e]; omega

theorem sumO_zero (h : Nat) (r : Nat → Int) (n : Nat) (e : ∀ i, i < n → i ≠ h → r i = 0) : sumO h r n = 0 := by
  rw [sumO_congr h r (fun _ => 0) n e]
  induction n with
  | zero => rfl
  | succ k ih => simp only [sumO]; rw [ih (fun i hi hn => e i (by omega) hn)]; simp

theorem sumO_nonneg (h : Nat) (r : Nat → Int) (n : Nat) (e : ∀ i, i < n → i ≠ h → 0 ≤ r i) : 0 ≤ sumO h r n := by
  induction n with
  | zero => simp [sumO]
  | succ k ih =>
    simp only [sumO]
    have := ih (fun i hi hn => e i (by omega) hn)
    by_cases hk : k = h
    · simp [hk]; exact hk ▸ this
    · have := e k (by omega) hk
      simp [hk]; omega

def give (p : Pt) (a b : Int) : Pt := { p with aS := p.aS - min a (p.aS - max (p.len : Int) 1), aL := p.aL - min b (p.aL - p.L) }
def updP (a : Nat → Pt) (x : Nat) (p : Pt) : Nat → Pt := fun i => if i = x then p else a i

/-- Where the gathering stands when the parts pre have been asked. -/
structure Inv (n h : Nat) (a0 a : Nat → Pt) (wS wL lS lL : Int) (pre : List Nat) : Prop where
  fit : ∀ i, i < n → Fit (a i)
  home : a h = a0 h
  hS : 0 ≤ lS ∧ lS ≤ wS
  hL : 0 ≤ lL ∧ lL ≤ wL
  sumS : sumO h (fun i => roomS (a i)) n + (wS - lS) = sumO h (fun i => roomS (a0 i)) n
  sumL : sumO h (fun i => roomL (a i)) n + (wL - lL) = sumO h (fun i => roomL (a0 i)) n
  dS : 0 < lS → ∀ x, x ∈ pre → roomS (a x) = 0
  dL : 0 < lL → ∀ x, x ∈ pre → roomL (a x) = 0

theorem Inv.start {n h : Nat} {a : Nat → Pt} {wS wL : Int} (hf : ∀ i, i < n → Fit (a i)) (h1 : 0 ≤ wS) (h2 : 0 ≤ wL) : Inv n h a a wS wL wS wL [] :=
  ⟨hf, rfl, ⟨h1, Int.le_refl _⟩, ⟨h2, Int.le_refl _⟩, by omega, by omega, fun _ x hx => (by cases hx), fun _ x hx => (by cases hx)⟩

theorem Inv.step {n h : Nat} {a0 a : Nat → Pt} {wS wL lS lL : Int} {pre : List Nat} (I : Inv n h a0 a wS wL lS lL pre) (x : Nat) (hx : x < n) (hn : x ≠ h) :
    Inv n h a0 (updP a x (give (a x) lS lL)) wS wL (lS - min lS ((a x).aS - max ((a x).len : Int) 1)) (lL - min lL ((a x).aL - (a x).L)) (pre ++ [x]) := by
  have f := I.fit x hx
  have f1 := f.len
  have f2 := f.L0
  have f3 := f.LA
  have f4 := f.A
  have f5 := f.S
  have f6 := f.S1
  have i1 := I.hS
  have i2 := I.hL
  have rS : (fun i => roomS (updP a x (give (a x) lS lL) i)) = fun i => if i = x then roomS (give (a x) lS lL) else roomS (a i) := by
    funext i; simp only [updP]; split <;> rfl
  have rL : (fun i => roomL (updP a x (give (a x) lS lL) i)) = fun i => if i = x then roomL (give (a x) lS lL) else roomL (a i) := by
    funext i; simp only [updP]; split <;> rfl
  have gS : roomS (give (a x) lS lL) = roomS (a x) - min lS (roomS (a x)) := by simp only [roomS, give]; omega
  have gL : roomL (give (a x) lS lL) = roomL (a x) - min lL (roomL (a x)) := by simp only [roomL, give]; omega
  refine ⟨fun i hi => ?_, ?_, by omega, by omega, ?_, ?_, fun hp y hy => ?_, fun hp y hy => ?_⟩
  · simp only [updP]
    split
    · exact ⟨f1, f2, by simp only [give]; omega, by simp only [give]; omega, by simp only [give]; omega, by simp only [give]; omega⟩
    · exact I.fit i hi
  · simp only [updP]; rw [if_neg (fun e => hn e.symm)]; exact I.home
  · rw [rS, sumO_upd h _ x _ n hx hn, gS]
    have := I.sumS
    simp only [roomS] at this ⊢
    omega
  · rw [rL, sumO_upd h _ x _ n hx hn, gL]
    have := I.sumL
    simp only [roomL] at this ⊢
    omega
  · simp only [updP]
    split
    · rw [gS]; simp only [roomS]; omega
    · rcases List.mem_append.1 hy with hy | hy
      · exact I.dS (by omega) y hy
      · simp at hy; contradiction
  · simp only [updP]
    split
    · rw [gL]; simp only [roomL]; omega
    · rcases List.mem_append.1 hy with hy | hy
      · exact I.dL (by omega) y hy
      · simp at hy; contradiction

/-- What has been gathered at the end. -/
structure Got (n h : Nat) (a0 : Nat → Pt) (wS wL gS gL : Int) : Prop where
  hS : 0 ≤ gS ∧ gS ≤ wS
  hL : 0 ≤ gL ∧ gL ≤ wL
  eS : gS = wS ∨ gS = sumO h (fun i => roomS (a0 i)) n
  eL : gL = wL ∨ gL = sumO h (fun i => roomL (a0 i)) n

theorem Inv.done {n h : Nat} {a0 a : Nat → Pt} {wS wL lS lL : Int} {pre : List Nat} (I : Inv n h a0 a wS wL lS lL pre) (hall : (lS = 0 ∧ lL = 0) ∨ ∀ i, i < n → i ≠ h → i ∈ pre) : Got n h a0 wS wL (wS - lS) (wL - lL) := by
  have i1 := I.hS
  have i2 := I.hL
  refine ⟨by omega, by omega, ?_, ?_⟩
  · by_cases e : lS = 0
    · exact .inl (by omega)
    · rcases hall with ⟨h1, _⟩ | hall
      · exact absurd h1 e
      · have := I.sumS
        rw [sumO_zero h (fun i => roomS (a i)) n (fun i hi hn => I.dS (by omega) i (hall i hi hn))] at this
        exact .inr (by omega)
  · by_cases e : lL = 0
    · exact .inl (by omega)
    · rcases hall with ⟨_, h1⟩ | hall
      · exact absurd h1 e
      · have := I.sumL
        rw [sumO_zero h (fun i => roomL (a i)) n (fun i hi hn => I.dL (by omega) i (hall i hi hn))] at this
        exact .inr (by omega)

/-- A part's cells behind cede. -/
theorem PartAt.give {f : Nat → Option Value} {n : Nat} {a : Nat → Pt} (hp : ∀ i, i < n → PartAt f i (a i)) (x : Nat) (lS lL : Int) :
    ∀ i, i < n → PartAt (put1 (put1 f (x * 78 + 4) (.int .i64 ((a x).aS - min lS ((a x).aS - max ((a x).len : Int) 1)))) (x * 78 + 5) (.int .i64 ((a x).aL - min lL ((a x).aL - (a x).L)))) i (updP a x (give (a x) lS lL) i) := by
  intro i hi
  have h := hp i hi
  by_cases e : i = x
  · subst e
    have e1 : updP a i (YbulkanmgRR.give (a i) lS lL) i = YbulkanmgRR.give (a i) lS lL := by simp [updP]
    rw [e1]
    refine ⟨?_, ?_, ?_, ?_, ?_⟩
    · rw [put1_other _ _ (by omega), put1_other _ _ (by omega)]; exact h.mu
    · rw [put1_other _ _ (by omega), put1_other _ _ (by omega)]; exact h.sets
    · rw [put1_other _ _ (by omega), put1_other _ _ (by omega)]; exact h.locks
    · rw [put1_other _ _ (by omega), put1_same]; rfl
    · rw [put1_same]; rfl
  · have e1 : updP a x (YbulkanmgRR.give (a x) lS lL) i = a i := by simp [updP, e]
    rw [e1]
    refine ⟨?_, ?_, ?_, ?_, ?_⟩
    · rw [put1_other _ _ (by omega), put1_other _ _ (by omega)]; exact h.mu
    · rw [put1_other _ _ (by omega), put1_other _ _ (by omega)]; exact h.sets
    · rw [put1_other _ _ (by omega), put1_other _ _ (by omega)]; exact h.locks
    · rw [put1_other _ _ (by omega), put1_other _ _ (by omega)]; exact h.asets
    · rw [put1_other _ _ (by omega), put1_other _ _ (by omega)]; exact h.alocks
end Go.Proofs.YbulkanmgRR
