import Derived.Test.YbulkanmgRRPutInto
namespace Go.Proofs.YbulkanmgRR
set_option linter.unusedVariables false
set_option linter.unusedSimpArgs false
open Go.RowKit

theorem Yba.info50 : (Yba.prog.info? 50).map (fun i => (i.size, i.bytes, i.zero.map fun z => (z.cells.size, z.cells[0]?, z.cells[2]?, z.cells[3]?, z.cells[4]?, z.cells[5]?))) = some (78, 128, some (78, some (.int .i32 0), some (.slice none 0 0), some (.int .i64 0), some (.int .i64 0), some (.int .i64 0))) := by kernel_rfl

/-- A part that holds nothing and may keep nothing yet. -/
structure Blank (f : Nat → Option Value) (i : Nat) : Prop where
  mu : f (i * 78) = some (.int .i32 0)
  sets : f (i * 78 + 2) = some (.slice none 0 0)
  locks : f (i * 78 + 3) = some (.int .i64 0)
  asets : (f (i * 78 + 4)).isSome = true
  alocks : (f (i * 78 + 5)).isSome = true

theorem madeCells_at (z : Array Value) (hz : z.size = 78) (n i k : Nat) (hi : i < n) (hk : k < 78) : (madeCells z (n * 78))[i * 78 + k]? = z[k]? := by
  have h1 : i * 78 + k < n * 78 := by omega
  have h2 : (i * 78 + k) % 78 = k := by omega
  simp only [madeCells, Array.getElem?_map]
  rw [Array.getElem?_range, if_pos h1]
  simp only [Option.map_some, hz, h2]
  rw [getElem!_pos z k (by omega)]
  simp [hz, hk]

theorem make_parts (n : Nat) (hn : n ≤ 8) : ∃ c : Array Value, (∀ i, i < n → Blank (fun k => c[k]?) i) ∧
    ∀ w : World, (Instr.makeSlice 25 (.int .i64 (n : Int)) (.int .i64 (n : Int))).run Yba.prog w = .ok (.slice (some ⟨w.heap.size, 0, none⟩) n n) (w.alloc (.cells c 50)) := by
  obtain ⟨i, hi, hx⟩ := Option.map_eq_some_iff.1 Yba.info50
  simp only [Prod.mk.injEq] at hx
  obtain ⟨hsz, hby, hz⟩ := hx
  obtain ⟨z, hz0, hz1⟩ := Option.map_eq_some_iff.1 hz
  simp only [Prod.mk.injEq] at hz1
  obtain ⟨z1, z2, z3, z4, z5, z6⟩ := hz1
  refine ⟨madeCells z.cells (n * 78), fun j hj => ⟨?_, ?_, ?_, ?_, ?_⟩, fun w => ?_⟩
  · have := madeCells_at z.cells z1 n j 0 hj (by omega)
    simpa [z2] using this
  · exact (madeCells_at z.cells z1 n j 2 hj (by omega)).trans z3
  · exact (madeCells_at z.cells z1 n j 3 hj (by omega)).trans z4
  · show ((madeCells z.cells (n * 78))[j * 78 + 4]?).isSome = true
    rw [madeCells_at z.cells z1 n j 4 hj (by omega), z5]; rfl
  · show ((madeCells z.cells (n * 78))[j * 78 + 5]?).isSome = true
    rw [madeCells_at z.cells z1 n j 5 hj (by omega), z6]; rfl
  · have hr := run_make (P := Yba.prog) w 25 50 i z Yba.underlying25 hi hz0 .i64 .i64 n n (by omega) (Int.le_refl _) (by rw [hby]; omega) (by omega)
    simp only [Int.toNat_natCast, hsz] at hr
    exact hr
end Go.Proofs.YbulkanmgRR
