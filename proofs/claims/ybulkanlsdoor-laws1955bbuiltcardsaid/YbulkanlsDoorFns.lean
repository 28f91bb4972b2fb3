import Derived.Test.YbulkanlsDoorRows
import Derived.Test.YbulkanlsDoorPlain
import Derived.WalkKit
import Derived.WalkSpells
import Derived.WalkLawsBesides
import Derived.Handy
namespace Go.Proofs.YbulkanlsDoor
set_option linter.unusedVariables false
open Go.RowKit

/-! ### HasPrefix -/
set_option maxHeartbeats 400000 in
theorem pre9 (s p : ByteArray) (w : World) (hs : s.size ≤ maxLen) (hp : p.size ≤ maxLen) :
    Calls Ybad.prog 9 #[.string s, .string p] w fun e w' => e = .returned (.bool (Lib.hasPrefix s.data.toList p.data.toList)) ∧ w' = w := by
  unfold maxLen at hs hp
  by_cases h : p.size ≤ s.size
  · have e : Lib.hasPrefix s.data.toList p.data.toList = ((s.extract 0 p.size).toList == p.toList) := by rw [← Lib.hasPrefix_raw]; simp [h]
    rw [e]
    clear e
    have h' : (p.size : Int) ≤ (s.size : Int) := by omega
    go_enter Ybad.func9, Ybad.ntmps9
    go_wp2
    go_ret
    exact ⟨rfl, rfl⟩
  · have e : Lib.hasPrefix s.data.toList p.data.toList = false := by rw [← Lib.hasPrefix_raw]; simp [h]
    rw [e]
    clear e
    have h' : ¬ (p.size : Int) ≤ (s.size : Int) := by omega
    go_enter Ybad.func9, Ybad.ntmps9
    go_wp2
    go_ret
    exact ⟨rfl, rfl⟩

set_option maxHeartbeats 400000 in
theorem pre8 (s p : ByteArray) (w : World) (hs : s.size ≤ maxLen) (hp : p.size ≤ maxLen) :
    Calls Ybad.prog 8 #[.string s, .string p] w fun e w' => e = .returned (.bool (Lib.hasPrefix s.data.toList p.data.toList)) ∧ w' = w := by
  go_enter Ybad.func8, Ybad.ntmps8
  go_wp2_with (go_at_call 9; refine (pre9 s p _ hs hp).mono ?_; rintro e w' ⟨rfl, rfl⟩)
  go_ret
  exact ⟨rfl, rfl⟩

/-! ### The case table -/
set_option maxHeartbeats 400000 in
theorem model_two (s : ByteArray) (w : World) (hs : s.size ≤ maxLen) (h2 : 2 ≤ s.size) (x : List UInt8) (hx : (s.extract 0 2).toList = x) (hm : x = [61, 61] ∨ x = [33, 61] ∨ x = [38, 38] ∨ x = [124, 124]) :
    Calls Ybad.prog 6 #[.string s] w fun e w' => e = .returned (.string (s.extract 0 2)) ∧ w' = w := by
  unfold maxLen at hs
  have h2' : (2 : Int) ≤ (s.size : Int) := by omega
  rcases hm with rfl | rfl | rfl | rfl
  all_goals
    go_enter Ybad.func6, Ybad.ntmps6
    go_wp2
    go_ret
    exact ⟨rfl, rfl⟩

set_option maxHeartbeats 1000000 in
theorem model_one (s : ByteArray) (w : World) (hs : s.size ≤ maxLen) (h1 : 0 < s.size) (hno : 2 ≤ s.size → (((s.extract 0 2).toList == [61, 61]) = false ∧ ((s.extract 0 2).toList == [33, 61]) = false ∧ ((s.extract 0 2).toList == [38, 38]) = false ∧ ((s.extract 0 2).toList == [124, 124]) = false))
    (c : Int) (hc : ((s[0]'h1).toNat : Int) = c) (hm : c = 33 ∨ c = 40 ∨ c = 41 ∨ c = 91 ∨ c = 93 ∨ c = 123 ∨ c = 125 ∨ c = 44 ∨ c = 59) :
    Calls Ybad.prog 6 #[.string s] w fun e w' => e = .returned (.string (s.extract 0 1)) ∧ w' = w := by
  unfold maxLen at hs
  have h1' : (1 : Int) ≤ (s.size : Int) := by omega
  by_cases h2 : 2 ≤ s.size
  · have h2' : (2 : Int) ≤ (s.size : Int) := by omega
    obtain ⟨n1, n2, n3, n4⟩ := hno h2
    clear hno
    rcases hm with rfl | rfl | rfl | rfl | rfl | rfl | rfl | rfl | rfl
    all_goals
      go_enter Ybad.func6, Ybad.ntmps6
      go_wp2
      go_ret
      exact ⟨rfl, rfl⟩
  · have h2' : ¬ (2 : Int) ≤ (s.size : Int) := by omega
    clear hno
    rcases hm with rfl | rfl | rfl | rfl | rfl | rfl | rfl | rfl | rfl
    all_goals
      go_enter Ybad.func6, Ybad.ntmps6
      go_wp2
      go_ret
      exact ⟨rfl, rfl⟩

set_option maxHeartbeats 1000000 in
theorem model_miss (s : ByteArray) (w : World) (hs : s.size ≤ maxLen) (hno : 2 ≤ s.size → (((s.extract 0 2).toList == [61, 61]) = false ∧ ((s.extract 0 2).toList == [33, 61]) = false ∧ ((s.extract 0 2).toList == [38, 38]) = false ∧ ((s.extract 0 2).toList == [124, 124]) = false))
    (hc : ∀ h1 : 0 < s.size, (((s[0]'h1).toNat : Int) == 33) = false ∧ (((s[0]'h1).toNat : Int) == 40) = false ∧ (((s[0]'h1).toNat : Int) == 41) = false ∧ (((s[0]'h1).toNat : Int) == 91) = false ∧ (((s[0]'h1).toNat : Int) == 93) = false ∧ (((s[0]'h1).toNat : Int) == 123) = false ∧ (((s[0]'h1).toNat : Int) == 125) = false ∧ (((s[0]'h1).toNat : Int) == 44) = false ∧ (((s[0]'h1).toNat : Int) == 59) = false) :
    Calls Ybad.prog 6 #[.string s] w fun e w' => e = .returned (.string ByteArray.empty) ∧ w' = w := by
  unfold maxLen at hs
  by_cases h1 : 0 < s.size
  · have h1' : (1 : Int) ≤ (s.size : Int) := by omega
    obtain ⟨c1, c2, c3, c4, c5, c6, c7, c8, c9⟩ := hc h1
    clear hc
    by_cases h2 : 2 ≤ s.size
    · have h2' : (2 : Int) ≤ (s.size : Int) := by omega
      obtain ⟨n1, n2, n3, n4⟩ := hno h2
      clear hno
      go_enter Ybad.func6, Ybad.ntmps6
      go_wp2
      go_ret
      exact ⟨rfl, rfl⟩
    · have h2' : ¬ (2 : Int) ≤ (s.size : Int) := by omega
      clear hno
      go_enter Ybad.func6, Ybad.ntmps6
      go_wp2
      go_ret
      exact ⟨rfl, rfl⟩
  · have h1' : ¬ (1 : Int) ≤ (s.size : Int) := by omega
    have h2' : ¬ (2 : Int) ≤ (s.size : Int) := by omega
    clear hno hc
    go_enter Ybad.func6, Ybad.ntmps6
    go_wp2
    go_ret
    exact ⟨rfl, rfl⟩

theorem byte_num (a : UInt8) (n : Nat) (hn : n < 256) (h : a ≠ UInt8.ofNat n) : ((a.toNat : Int) == (n : Int)) = false := by
  rw [beq_eq_false_iff_ne]
  intro h'
  apply h
  have : a.toNat = n := by omega
  rw [← this]; simp

/-- The one-byte part of the case table. -/
theorem model_rest (s : ByteArray) (w : World) (hs : s.size ≤ maxLen) (a : UInt8) (r : List UInt8) (hl : s.data.toList = a :: r) (hno : 2 ≤ s.size → (((s.extract 0 2).toList == [61, 61]) = false ∧ ((s.extract 0 2).toList == [33, 61]) = false ∧ ((s.extract 0 2).toList == [38, 38]) = false ∧ ((s.extract 0 2).toList == [124, 124]) = false)) :
    Calls Ybad.prog 6 #[.string s] w fun e w' => ∃ v, e = .returned (.string v) ∧ v.data.toList = oneL a ∧ w' = w := by
  have h0 : 0 < s.size := by rw [Lib.size_eq, hl]; simp
  have hs0 : s[0]'h0 = a := by
    have e : s.data.toList[0]? = some (s[0]'h0) := by rw [List.getElem?_eq_getElem (by simpa using h0)]; rfl
    rw [hl] at e
    simpa using e.symm
  by_cases hm : a ∈ ([33, 40, 41, 91, 93, 123, 125, 44, 59] : List UInt8)
  · refine (model_one s w hs h0 hno (a.toNat : Int) (by rw [hs0]) ?_).mono ?_
    · simp only [List.mem_cons, List.not_mem_nil, or_false] at hm
      rcases hm with rfl | rfl | rfl | rfl | rfl | rfl | rfl | rfl | rfl <;> decide
    · rintro e w' ⟨rfl, rfl⟩
      refine ⟨_, rfl, ?_, rfl⟩
      rw [Lib.extract_data, hl]
      simp [oneL, hm]
  · refine (model_miss s w hs hno ?_).mono ?_
    · intro h1
      have e : s[0]'h1 = a := hs0
      rw [e]
      simp only [List.mem_cons, List.not_mem_nil, or_false, not_or] at hm
      obtain ⟨m1, m2, m3, m4, m5, m6, m7, m8, m9⟩ := hm
      exact ⟨byte_num a 33 (by decide) m1, byte_num a 40 (by decide) m2, byte_num a 41 (by decide) m3, byte_num a 91 (by decide) m4, byte_num a 93 (by decide) m5, byte_num a 123 (by decide) m6, byte_num a 125 (by decide) m7, byte_num a 44 (by decide) m8, byte_num a 59 (by decide) m9⟩
    · rintro e w' ⟨rfl, rfl⟩
      exact ⟨_, rfl, by rw [oneL, if_neg hm]; rfl, rfl⟩

theorem model_any (s : ByteArray) (w : World) (hs : s.size ≤ maxLen) :
    Calls Ybad.prog 6 #[.string s] w fun e w' => ∃ v, e = .returned (.string v) ∧ v.data.toList = modelL s.data.toList ∧ w' = w := by
  match hl : s.data.toList with
  | [] =>
    have h0 : s.size = 0 := by rw [Lib.size_eq, hl]; rfl
    refine (model_miss s w hs (fun h => by omega) (fun h => by omega)).mono ?_
    rintro e w' ⟨rfl, rfl⟩
    exact ⟨_, rfl, rfl, rfl⟩
  | [a] =>
    have h1 : s.size = 1 := by rw [Lib.size_eq, hl]; rfl
    exact model_rest s w hs a [] hl (fun h => by omega)
  | a :: b :: r =>
    have h2 : 2 ≤ s.size := by rw [Lib.size_eq, hl]; simp
    have ex : (s.extract 0 2).toList = [a, b] := by rw [Lib.extract_toList, hl]; simp
    by_cases hm : [a, b] ∈ ([[61, 61], [33, 61], [38, 38], [124, 124]] : List (List UInt8))
    · refine (model_two s w hs h2 [a, b] ex (by simpa using hm)).mono ?_
      rintro e w' ⟨rfl, rfl⟩
      refine ⟨_, rfl, ?_, rfl⟩
      rw [Lib.extract_data, hl]
      show _ = if _ then _ else _
      rw [if_pos hm]
      simp
    · have e : modelL (a :: b :: r) = oneL a := by show (if _ then _ else _) = _; rw [if_neg hm]
      rw [e]
      refine model_rest s w hs a (b :: r) hl (fun _ => ?_)
      rw [ex]
      simp only [List.mem_cons, List.not_mem_nil, or_false, not_or] at hm
      exact ⟨beq_eq_false_iff_ne.2 hm.1, beq_eq_false_iff_ne.2 hm.2.1, beq_eq_false_iff_ne.2 hm.2.2.1, beq_eq_false_iff_ne.2 hm.2.2.2⟩

/-! ### punctAt -/
/-- What the walk is told of the table: the variable's cell, and its thirteen strings. -/
structure IsTab (w : World) (b off cap : Nat) : Prop where
  var : w.cell? ⟨0, 0, none⟩ = some (.slice (some ⟨b, off, none⟩) 13 cap)
  cell : ∀ i, i < 13 → w.cell? ⟨b, off + i, none⟩ = some (.string ⟨(tabL.getD i []).toArray⟩)

theorem find_at (l : List UInt8) (T : List (List UInt8)) : ∀ k, (∀ j, j < k → Lib.hasPrefix l (T.getD j []) = false) → k < T.length → Lib.hasPrefix l (T.getD k []) = true → (T.find? fun p => Lib.hasPrefix l p).getD [] = T.getD k [] := by
  induction T with
  | nil => intro k _ h; simp at h
  | cons t T ih =>
    intro k hj hk ht
    cases k with
    | zero => simp at ht; simp [List.find?, ht]
    | succ k =>
      have h0 := hj 0 (by omega)
      simp at h0
      simp only [List.find?, h0]
      simpa using ih k (fun j h => by simpa using hj (j + 1) (by omega)) (by simpa using hk) (by simpa using ht)

theorem find_none (l : List UInt8) (T : List (List UInt8)) (h : ∀ j, j < T.length → Lib.hasPrefix l (T.getD j []) = false) : (T.find? fun p => Lib.hasPrefix l p).getD [] = [] := by
  induction T with
  | nil => rfl
  | cons t T ih =>
    have h0 := h 0 (by simp)
    simp at h0
    simp only [List.find?, h0]
    exact ih (fun j hj => by simpa using h (j + 1) (by simpa using hj))

set_option maxHeartbeats 400000 in
theorem punct_any (s : ByteArray) (w : World) (b off cap : Nat) (ht : IsTab w b off cap) (hs : s.size ≤ maxLen) :
    Calls Ybad.prog 5 #[.string s] w fun e w' => ∃ v, e = .returned (.string v) ∧ v.data.toList = punctL s.data.toList ∧ v.size ≤ maxLen ∧ w' = w := by
  have hvar := ht.var
  go_enter Ybad.func5, Ybad.ntmps5
  go_wp2_with fail
  go_loop [7] (fun i => ∃ k : Nat, k ≤ 13 ∧ i = .int .i64 k ∧ ∀ j, j < k → Lib.hasPrefix s.data.toList (tabL.getD j []) = false) (fun i => 13 - (intOf i).toNat)
  case atStart => exact ⟨0, by omega, rfl, fun j hj => by omega⟩
  case round =>
    obtain ⟨k, hk, rfl, hno⟩ := hrel
    have HNO : Hid (∀ j, j < k → Lib.hasPrefix s.data.toList (tabL.getD j []) = false) := hno
    clear hno
    by_cases hlt : k < 13
    · obtain ⟨p, hp⟩ : ∃ p : ByteArray, p = ⟨(tabL.getD k []).toArray⟩ := ⟨_, rfl⟩
      have hc : w.cell? ⟨b, off + k, none⟩ = some (.string p) := by rw [hp]; exact ht.cell k hlt
      have hpl : p.data.toList = tabL.getD k [] := by rw [hp]
      have hps : p.size ≤ 2 := by
        rw [Lib.size_eq, hpl]
        have h2 : ∀ j, j < 13 → (tabL.getD j []).length ≤ 2 := by decide
        exact h2 k hlt
      have HPL : Hid (p.data.toList = tabL.getD k []) := hpl
      have hpm : p.size ≤ maxLen := by unfold maxLen; omega
      clear hp hpl
      by_cases hit : Lib.hasPrefix s.data.toList p.data.toList = true
      · go_wp2_with (go_at_call 8; refine (pre8 s p _ hs hpm).mono ?_; rintro e w' ⟨rfl, rfl⟩)
        go_ret
        refine ⟨p, rfl, ?_, hpm, rfl⟩
        rw [HPL.out]
        rw [HPL.out] at hit
        exact (find_at s.data.toList tabL k HNO.out hlt hit).symm
      · have hit' : Lib.hasPrefix s.data.toList p.data.toList = false := by simpa using hit
        clear hit
        go_wp2_with (go_at_call 8; refine (pre8 s p _ hs hpm).mono ?_; rintro e w' ⟨rfl, rfl⟩)
        go_round
        case rel =>
          refine ⟨k + 1, by omega, by go_num, fun j hj => ?_⟩
          by_cases hjk : j = k
          · subst hjk; rw [← HPL.out]; exact hit'
          · exact HNO.out j (by omega)
        case measure => simp [intOf]; omega
    · go_wp2
      go_ret
      exact ⟨ByteArray.empty, rfl, (find_none s.data.toList tabL (fun j hj => HNO.out j (by have : tabL.length = 13 := rfl; omega))).symm, by unfold maxLen; decide, rfl⟩
end Go.Proofs.YbulkanlsDoor
