import Derived.Test.YbulkanmgRRStore
namespace Go.Proofs.YbulkanmgRR
set_option linter.unusedVariables false
set_option linter.unusedSimpArgs false
open Go.RowKit

/-- The j-th lock of the set in block B, or nil. -/
def nx (B j : Nat) : Option Addr := if j = 0 then none else some ⟨B + j, 0, none⟩
theorem nx_zero (B : Nat) : nx B 0 = none := rfl
theorem nx_succ (B j : Nat) : nx B (j + 1) = some ⟨B + (j + 1), 0, none⟩ := rfl

/-- The set of spares in block B: its c locks lie behind it, each leads to the one laid ahead of it. -/
structure SetAt (w : World) (B c : Nat) : Prop where
  hd : ∃ f, PM w B f ∧ f 0 = some (.pointer (nx B c)) ∧ f 1 = some (.int .i64 c)
  tl : ∀ j, 1 ≤ j → j ≤ c → ∃ f, PM w (B + j) f ∧ f 11 = some (.pointer (nx B (j - 1)))

theorem SetAt.fr {w w' : World} {B c : Nat} {S : Nat → Prop} (h : SetAt w B c) (hf : Fr S w w') (hs : ∀ j, j ≤ c → ¬ S (B + j)) : SetAt w' B c := by
  refine ⟨?_, fun j h1 h2 => ?_⟩
  · obtain ⟨f, h1, h2⟩ := h.hd
    exact ⟨f, h1.fr hf (hs 0 (Nat.zero_le _)), h2⟩
  · obtain ⟨f, h3, h4⟩ := h.tl j h1 h2
    exact ⟨f, h3.fr hf (hs j h2), h4⟩

theorem SetAt.grow {w : World} {B q : Nat} (h : SetAt w B q) (hs : w.heap.size = B + 1 + q) (c : Array Value) (t : Nat) (hc : c[11]? = some (.pointer (nx B q))) :
    SetAt (((w.setCell ⟨B, 0, none⟩ (.pointer (some ⟨w.heap.size, 0, none⟩))).setCell ⟨B, 1, none⟩ (.int .i64 ((q : Int) + 1))).alloc (.cells c t (0, 0))) B (q + 1) := by
  obtain ⟨f, h1, h2, h3⟩ := h.hd
  refine ⟨⟨_, ((h1.set 0 _ (by rw [h2]; rfl)).set 1 _ (by rw [put1_other _ _ (by omega), h3]; rfl)).alloc _, ?_, ?_⟩, fun j hj hj2 => ?_⟩
  · rw [put1_other _ _ (by omega), put1_same, nx_succ, hs]
    have e : B + 1 + q = B + (q + 1) := by omega
    rw [e]
  · rw [put1_same]; congr
  · by_cases e : j = q + 1
    · subst e
      have := PM.new ((w.setCell ⟨B, 0, none⟩ (.pointer (some ⟨w.heap.size, 0, none⟩))).setCell ⟨B, 1, none⟩ (.int .i64 ((q : Int) + 1))) c t
      simp only [World.size_setCell, hs] at this
      have e : B + (q + 1) = B + 1 + q := by omega
      rw [e]
      simp only [hs]
      exact ⟨_, this, hc⟩
    · obtain ⟨g, g1, g2⟩ := h.tl j hj (by omega)
      exact ⟨g, ((g1.other _ _ (by simp; omega)).other _ _ (by simp; omega)).alloc _, g2⟩

/-- The first lock of the set is let go. -/
theorem SetAt.pop {w : World} {B d : Nat} (h : SetAt w B (d + 1)) :
    SetAt (((w.setCell ⟨B, 0, none⟩ (.pointer (nx B d))).setCell ⟨B + (d + 1), 11, none⟩ (.pointer none)).setCell ⟨B, 1, none⟩ (.int .i64 (d : Int))) B d := by
  obtain ⟨f, h1, h2, h3⟩ := h.hd
  refine ⟨⟨_, ((h1.set 0 _ (by rw [h2]; rfl)).other _ _ (by simp)).set 1 _ (by rw [put1_other _ _ (by omega), h3]; rfl), ?_, ?_⟩, fun j hj hj2 => ?_⟩
  · rw [put1_other _ _ (by omega), put1_same]
  · rw [put1_same]
  · obtain ⟨g, g1, g2⟩ := h.tl j hj (by omega)
    exact ⟨g, ((g1.other _ _ (by simp; omega)).other _ _ (by simp; omega)).other _ _ (by simp; omega), g2⟩

set_option maxRecDepth 10000 in
set_option maxHeartbeats 1600000 in
/-- zzs1956bset. -/
theorem set_any (k : Nat) (w : World) (hk : k ≤ 1000) :
    Calls Yba.prog 7 #[.int .i64 k] w fun e w' => e = .returned (.pointer (some ⟨w.heap.size, 0, none⟩)) ∧ Below w.heap.size w w' ∧ w'.heap.size = w.heap.size + 1 + k ∧ SetAt w' w.heap.size k := by
  go_enter Yba.func7, Yba.ntmps7
  go_wp2
  go_loopw [4] (fun i wr => ∃ q : Nat, q ≤ k ∧ i = .int .i64 q ∧ Below w.heap.size w wr ∧ wr.heap.size = w.heap.size + 1 + q ∧ SetAt wr w.heap.size q) (fun i _ => k - (intOf i).toNat)
  case atStart =>
    refine ⟨0, Nat.zero_le _, rfl, (Below.refl _ w).alloc (Nat.le_refl _) _, by simp, ⟨⟨_, PM.new w _ _, rfl, rfl⟩, fun j h1 h2 => by omega⟩⟩
  case round =>
    obtain ⟨q, hq, rfl, hbel, hsz, hset⟩ := hrel
    obtain ⟨f, hP, hf0, hf1⟩ := hset.hd
    have c0 := (hP.cell 0).trans hf0
    have c1 := (hP.cell 1).trans hf1
    have f0 := hP.free 0
    have f1 := hP.free 1
    have hlt0 := hP.lt
    by_cases hlt : q < k
    · have hqI : (q : Int) < (k : Int) := by omega
      have HS : Hid (wr.heap.size = w.heap.size + 1 + q) := hsz
      have HT : Hid (SetAt wr w.heap.size q) := hset
      have HP : Hid (PM wr w.heap.size f) := hP
      clear hsz hset hP
      go_wp2
      refine ⟨⟨q + 1, by omega, by go_num, ((hbel.setCell (p := ⟨w.heap.size, 0, none⟩) (Nat.le_refl _) _).setCell (p := ⟨w.heap.size, 1, none⟩) (Nat.le_refl _) _).alloc (by simp; omega) _, by simp [HS.out]; omega, HT.out.grow HS.out _ _ rfl⟩, by simp [intOf]; omega⟩
    · have hqI : ¬ (q : Int) < (k : Int) := by omega
      go_wp2
      go_ret
      obtain rfl : q = k := by omega
      exact ⟨rfl, hbel, hsz, hset⟩
end Go.Proofs.YbulkanmgRR
