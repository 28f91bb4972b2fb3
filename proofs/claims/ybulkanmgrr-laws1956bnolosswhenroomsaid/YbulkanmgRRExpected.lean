import Derived.Test.YbulkanmgRRMem
namespace Go.Proofs.YbulkanmgRR
set_option linter.unusedVariables false
set_option linter.unusedSimpArgs false
open Go.RowKit

theorem Yba.info66 : (Yba.prog.info? 66).map (fun i => (i.zero, i.size, i.bytes)) = some (some (.pointer none), 1, 8) := by kernel_rfl

/-- The j-th of the others than k. -/
def ek (k j : Nat) : Nat := if j < k then j else j + 1
/-- How many of the first i are others than k. -/
def cnt (k i : Nat) : Nat := if i ≤ k then i else i - 1
def others (B k m : Nat) : List Value := (List.range m).map fun j => .pointer (some ⟨bk B (ek k j), 0, none⟩)

theorem others_succ (B k m : Nat) : others B k (m + 1) = others B k m ++ [.pointer (some ⟨bk B (ek k m), 0, none⟩)] := by simp [others, List.range_succ]
theorem others_at (B k m j : Nat) (hj : j < m) : (others B k m)[j]? = some (.pointer (some ⟨bk B (ek k j), 0, none⟩)) := by simp [others, hj]
theorem others_len (B k m : Nat) : (others B k m).length = m := by simp [others]

theorem new_cells (w : World) (cs : List Value) (t : TypeId) (g : Nat) (hg : g = w.heap.size) : ∀ (j : Nat) (u : Value), cs[j]? = some u → (w.alloc (.cells cs.toArray t)).cell? ((⟨g, 0, none⟩ : Addr).add j) = some u := by
  intro j u hu
  subst hg
  rw [Addr.add_lit, Nat.zero_add, World.cell?_alloc_new]
  simpa using hu

theorem one_ptr (a : Option Addr) : ∀ u ∈ [Value.pointer a], u.oneCell' = true := by
  intro u hu; simp at hu; subst hu; rfl

set_option maxRecDepth 10000 in
set_option maxHeartbeats 400000 in
theorem expected_any (B n k cap : Nat) (w : World) (hrow : ∀ i, i < n → w.cell? ⟨B, i, none⟩ = some (.pointer (some ⟨bk B i, 0, none⟩))) (hk : k < n) (hn : n ≤ 256) :
    Calls Yba.prog 13 #[.slice (some ⟨B, 0, none⟩) n cap, .int .i64 k] w fun e w' => e = .returned (.slice (some ⟨w.heap.size, 0, none⟩) (n - 1) n) ∧
      w'.ownsRow w.heap.size 66 1 (.slice (some ⟨w.heap.size, 0, none⟩) (n - 1) n) (n - 1) (others B k (n - 1)) ∧ Below w.heap.size w w' := by
  obtain ⟨i0, hi, hz0, hz1, hz2⟩ := info_parts Yba.info66
  have hB : B < w.heap.size := World.block_lt_of_cell? w _ (hrow 0 (by omega))
  have HROW : Hid (∀ i, i < n → w.cell? ⟨B, i, none⟩ = some (.pointer (some ⟨bk B i, 0, none⟩))) := hrow
  clear hrow
  go_enter Yba.func13, Yba.ntmps13
  go_wp2_with (at_make; go_must (refine wpList_make_own _ rfl _ _ 62 rfl w.heap.size 66 i0 _ 1 Yba.underlying62 hi hz0 hz1 _ _ _ n rfl rfl rfl (by rw [hz2]; omega) (by unfold maxLen; omega) (Nat.le_refl _) ?_); intro w1 hown hgrow)
  go_loopw [5, 6] (fun v i wr => ∃ q : Nat, q ≤ n ∧ i = .int .i64 q ∧ v = .slice (some ⟨w.heap.size, 0, none⟩) (cnt k q) n ∧ wr.ownsRow w.heap.size 66 1 (.slice (some ⟨w.heap.size, 0, none⟩) (cnt k q) n) (cnt k q) (others B k (cnt k q)) ∧ Below w.heap.size w wr) (fun _ i _ => n - (intOf i).toNat)
  case atStart => exact ⟨0, Nat.zero_le _, rfl, by simp [cnt], by simpa [cnt, others] using hown, (Below.refl _ _).grown hgrow (Nat.le_refl _) (by simp)⟩
  case round =>
    obtain ⟨q, hq, rfl, rfl, hrw, hbel⟩ := hrel
    have hsz := hbel.size
    clear hown hgrow
    by_cases hlt : q < n
    · have c0 : wr.cell? ⟨B, q, none⟩ = some (.pointer (some ⟨bk B q, 0, none⟩)) := (hbel.cell hB).trans (HROW.out q hlt)
      have hqI : (q : Int) < (n : Int) := by omega
      by_cases hqk : q = k
      · have hne : ((q : Int) != (k : Int)) = false := by simp [hqk]
        have e1 : cnt k (q + 1) = cnt k q := by unfold cnt; rw [if_neg (by omega), if_pos (by omega)]; omega
        have E1 : Hid (cnt k (q + 1) = cnt k q) := e1
        clear e1 hqk
        go_wp2
        go_roundw
        case rel => exact ⟨q + 1, by omega, by go_num, by rw [E1.out], by rw [E1.out]; exact hrw, hbel⟩
        case measure => simp [intOf]; omega
      · have hne : ((q : Int) != (k : Int)) = true := by rw [bne_iff_ne]; omega
        have e1 : cnt k (q + 1) = cnt k q + 1 := by unfold cnt; split <;> split <;> omega
        have e2 : ek k (cnt k q) = q := by unfold ek cnt; split <;> split <;> omega
        have e3 : cnt k q + 1 ≤ n := by unfold cnt; split <;> omega
        have E1 : Hid (cnt k (q + 1) = cnt k q + 1 ∧ ek k (cnt k q) = q) := ⟨e1, e2⟩
        clear e1 e2 hqk
        go_wp2_with (at_builtin; go_must (refine wpList_append_fits _ rfl _ _ 62 rfl w.heap.size 66 i0 1 Yba.underlying62 hi hz1 w.heap.size (cnt k q) n _ rfl (hrw.alloc _) ⟨wr.heap.size, 0, none⟩ 1 1 [.pointer (some ⟨bk B q, 0, none⟩)] rfl rfl (new_cells wr [_] 66 _ rfl) (one_ptr _) e3 ?_); intro w2 hrow2 hgrow2)
        go_roundw
        case rel =>
          refine ⟨q + 1, by omega, by go_num, by rw [E1.out.1], ?_, (hbel.alloc hsz _).grown hgrow2 (by simp; omega) (by simp)⟩
          rw [E1.out.1, others_succ, E1.out.2]
          exact hrow2
        case measure => simp [intOf]; omega
    · have hqn : q = n := by omega
      subst hqn
      have e1 : cnt k q = q - 1 := by unfold cnt; rw [if_neg (by omega)]
      rw [e1] at hrw ⊢
      have hqI : ¬ (q : Int) < (q : Int) := by omega
      go_wp2
      go_ret
      exact ⟨rfl, hrw, hbel⟩
end Go.Proofs.YbulkanmgRR
