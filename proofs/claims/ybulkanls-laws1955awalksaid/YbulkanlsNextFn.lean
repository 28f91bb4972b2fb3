import Derived.Test.YbulkanlsToks
import Derived.Deep.QuietTactic
import Derived.BigQuiet
namespace Go.Proofs.Ybulkanls
set_option linter.unusedVariables false
open Go.RowKit

theorem cells_at (zs : List Tok) : ∀ (i j : Nat), i ≤ zs.length → j < 3 → (allCells zs)[i * 3 + j]? = (tcells (tokAt zs i))[j]? := by
  induction zs with
  | nil =>
    intro i j hi hj
    simp at hi; subst hi
    simp [allCells, tokAt]
  | cons t zs ih =>
    intro i j hi hj
    have e : allCells (t :: zs) = tcells t ++ allCells zs := by simp [allCells]
    rw [e]
    cases i with
    | zero =>
      rw [List.getElem?_append_left (by simp [tcells]; omega)]
      simp [tokAt]
    | succ i =>
      rw [List.getElem?_append_right (by simp [tcells]; omega)]
      have h3 : (i + 1) * 3 + j - (tcells t).length = i * 3 + j := by simp [tcells]; omega
      rw [h3, ih i j (by simpa using hi) hj]
      simp [tokAt]

theorem row_at {w : World} {B g len : Nat} {zs : List Tok} (h : w.ownsRow B 36 3 (.slice (some ⟨g, 0, none⟩) (len + 1) (len + 1)) (len + 1) (allCells zs)) (hl : zs.length = len) (i : Nat) (hi : i ≤ len) :
    w.cell? ⟨g, i * 3, none⟩ = some (.int .i64 ((tokAt zs i).1 % 7)) ∧ w.cell? ⟨g, i * 3 + 1, none⟩ = some (.string (tokAt zs i).2.1) ∧ w.cell? ⟨g, i * 3 + 2, none⟩ = some (.int .i64 (tokAt zs i).2.2) := by
  refine ⟨?_, ?_, ?_⟩
  · rw [h.cellAt (i * 3) (by omega)]; simpa [tcells] using cells_at zs i 0 (by omega) (by omega)
  · rw [h.cellAt (i * 3 + 1) (by omega)]; simpa [tcells] using cells_at zs i 1 (by omega) (by omega)
  · rw [h.cellAt (i * 3 + 2) (by omega)]; simpa [tcells] using cells_at zs i 2 (by omega) (by omega)

set_option maxHeartbeats 400000 in
theorem next_eof (pb g i n c : Nat) (s : ByteArray) (l : Int) (w : World) (ht : w.cell? ⟨pb, 1, none⟩ = some (.slice (some ⟨g, 0, none⟩) n c)) (hp : w.cell? ⟨pb, 2, none⟩ = some (.int .i64 i)) (hin : i < n) (hn : n ≤ 2000)
    (c0 : w.cell? ⟨g, i * 3, none⟩ = some (.int .i64 0)) (c1 : w.cell? ⟨g, i * 3 + 1, none⟩ = some (.string s)) (c2 : w.cell? ⟨g, i * 3 + 2, none⟩ = some (.int .i64 l)) :
    Calls Yba.prog 6 #[.pointer (some ⟨pb, 0, none⟩)] w fun e w' => e = .returned (.agg #[.int .i64 0, .string s, .int .i64 l]) ∧ Below w.heap.size w w' := by
  have hpb := World.block_lt_of_cell? w _ ht
  have hgb := World.block_lt_of_cell? w _ c0
  have hpb' : pb < w.heap.size := hpb
  have hgb' : g < w.heap.size := hgb
  clear hpb hgb
  go_enter Yba.func6, Yba.ntmps6
  go_wp2_with fail
  go_region
  go_wp2
  go_returns
  exact ⟨rfl, by go_grown⟩

set_option maxHeartbeats 400000 in
theorem next_on (pb g i n c : Nat) (k : Int) (s : ByteArray) (l : Int) (w : World) (ht : w.cell? ⟨pb, 1, none⟩ = some (.slice (some ⟨g, 0, none⟩) n c)) (hp : w.cell? ⟨pb, 2, none⟩ = some (.int .i64 i)) (hin : i < n) (hn : n ≤ 2000) (hk : k ≠ 0)
    (c0 : w.cell? ⟨g, i * 3, none⟩ = some (.int .i64 k)) (c1 : w.cell? ⟨g, i * 3 + 1, none⟩ = some (.string s)) (c2 : w.cell? ⟨g, i * 3 + 2, none⟩ = some (.int .i64 l)) (hf : w.frozen? ⟨pb, 2, none⟩ = false) :
    Calls Yba.prog 6 #[.pointer (some ⟨pb, 0, none⟩)] w fun e w' => e = .returned (.agg #[.int .i64 k, .string s, .int .i64 l]) ∧ Below w.heap.size (w.setCell ⟨pb, 2, none⟩ (.int .i64 (i + 1))) w' := by
  have hpb := World.block_lt_of_cell? w _ ht
  have hgb := World.block_lt_of_cell? w _ c0
  have hpb' : pb < w.heap.size := hpb
  have hgb' : g < w.heap.size := hgb
  have hne : (k != 0) = true := by simpa using hk
  clear hpb hgb hk
  go_enter Yba.func6, Yba.ntmps6
  go_wp2_with fail
  go_region
  go_wp2
  go_returns
  exact ⟨rfl, by go_grown⟩
end Go.Proofs.Ybulkanls
