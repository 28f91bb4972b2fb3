import Derived.Test.YbulkanmgRRRows
import Derived.WalkKit
import Derived.WalkSpells
import Derived.WalkLawsBesides
import Derived.Handy
import Derived.LaidEql
import Derived.Deep.QuietTactic
import Derived.BigQuiet
namespace Go.Proofs.YbulkanmgRR
set_option linter.unusedVariables false
set_option linter.unusedSimpArgs false
open Go.RowKit

theorem Yba.info97s : (Yba.prog.info? 97).map (fun i => i.size) = some 26 := by kernel_rfl
theorem Yba.info113s : (Yba.prog.info? 113).map (fun i => i.size) = some 13 := by kernel_rfl

/-- The address leads into a plain block of cells, or is nil. -/
def Sound (w : World) (a : Option Addr) : Prop := ∀ x, a = some x → ∃ c t, w.heap[x.block]? = some (.cells c t (0, 0))

theorem eqlIn_ptr (w : World) (a b : Option Addr) (ha : Sound w a) (hb : Sound w b) (d : Nat) (r : Bool) (hr : r = true ↔ a = b) :
    (Op.equalIn (d + 1) 66 (.pointer a) (.pointer b)).run Yba.prog w = .ok r w := by
  obtain ⟨i, hi, hsz⟩ := Option.map_eq_some_iff.1 Yba.info97s
  cases a with
  | none =>
    have e : r = b.isNone := by cases b <;> simp_all
    rw [e]; simp [Op.equalIn, run_underlying Yba.underlying66]
  | some a =>
    cases b with
    | none =>
      have e : r = false := by cases r <;> simp_all
      rw [e]; simp [Op.equalIn, run_underlying Yba.underlying66]
    | some b =>
      by_cases h : a = b
      · subst h
        have e : r = true := hr.2 rfl
        rw [e]; simp [Op.equalIn, run_underlying Yba.underlying66, sizeOf, typeInfo, hi, hsz, run_sameAddr_same]
      · have e : r = false := by
          cases r with
          | false => rfl
          | true => exact absurd (Option.some.inj (hr.1 rfl)) h
        obtain ⟨ca, ta, h1⟩ := ha a rfl
        obtain ⟨cb, tb, h2⟩ := hb b rfl
        rw [e]; simp [Op.equalIn, run_underlying Yba.underlying66, sizeOf, typeInfo, hi, hsz, run_sameAddr_other w h h1 h2]

theorem eql_ptr (w : World) (a b : Option Addr) (ha : Sound w a) (hb : Sound w b) (r : Bool) (hr : r = true ↔ a = b) :
    (binOp .eql 66 (.pointer a) (.pointer b)).run Yba.prog w = .ok (.bool r) w := by
  simp only [binOp]
  simp [Op.equal, Op.maxDepth, eqlIn_ptr w a b ha hb 9999 r hr]

theorem neq_ptr (w : World) (a b : Option Addr) (ha : Sound w a) (hb : Sound w b) (r : Bool) (hr : r = false ↔ a = b) :
    (binOp .neq 66 (.pointer a) (.pointer b)).run Yba.prog w = .ok (.bool r) w := by
  have h := eqlIn_ptr w a b ha hb 9999 (!r) (by simpa using hr)
  simp only [binOp]
  simp [Op.equal, Op.maxDepth, h]

/-! ### replace -/
set_option maxRecDepth 10000 in
set_option maxHeartbeats 400000 in
theorem replace_root (T : Nat) (old t : Option Addr) (v : Value) (w : World) (h8 : w.cell? ⟨T, 8, none⟩ = some v) (hf : w.frozen? ⟨T, 8, none⟩ = false) :
    Calls Yba.prog 31 #[.pointer (some ⟨T, 6, none⟩), .int .i64 2, .pointer none, .pointer old, .pointer t] w fun e w' => e = .returned (.tuple #[]) ∧ w' = w.setCell ⟨T, 8, none⟩ (.pointer t) := by
  go_enter Yba.func31, Yba.ntmps31
  go_wp2
  go_end0
  exact ⟨rfl, rfl⟩

set_option maxRecDepth 10000 in
set_option maxHeartbeats 400000 in
theorem replace_left (p ob : Nat) (ls t : Option Addr) (w : World) (h23 : w.cell? ⟨p, 23, none⟩ = some (.pointer (some ⟨ob, 0, none⟩))) (hf : w.frozen? ⟨p, 23, none⟩ = false) (ho : Sound w (some ⟨ob, 0, none⟩)) :
    Calls Yba.prog 31 #[.pointer ls, .int .i64 2, .pointer (some ⟨p, 0, none⟩), .pointer (some ⟨ob, 0, none⟩), .pointer t] w fun e w' => e = .returned (.tuple #[]) ∧ w' = w.setCell ⟨p, 23, none⟩ (.pointer t) := by
  have he := eql_ptr w (some ⟨ob, 0, none⟩) (some ⟨ob, 0, none⟩) ho ho true (by simp)
  go_enter Yba.func31, Yba.ntmps31
  go_wp2
  go_end0
  exact ⟨rfl, rfl⟩

set_option maxRecDepth 10000 in
set_option maxHeartbeats 400000 in
theorem replace_right (p ob : Nat) (ls t l : Option Addr) (v : Value) (w : World) (h23 : w.cell? ⟨p, 23, none⟩ = some (.pointer l)) (hl : l ≠ some ⟨ob, 0, none⟩) (h24 : w.cell? ⟨p, 24, none⟩ = some v) (hf : w.frozen? ⟨p, 24, none⟩ = false)
    (ho : Sound w (some ⟨ob, 0, none⟩)) (hsl : Sound w l) :
    Calls Yba.prog 31 #[.pointer ls, .int .i64 2, .pointer (some ⟨p, 0, none⟩), .pointer (some ⟨ob, 0, none⟩), .pointer t] w fun e w' => e = .returned (.tuple #[]) ∧ w' = w.setCell ⟨p, 24, none⟩ (.pointer t) := by
  have he := eql_ptr w l (some ⟨ob, 0, none⟩) hsl ho false (by simpa using hl)
  go_enter Yba.func31, Yba.ntmps31
  go_wp2
  go_end0
  exact ⟨rfl, rfl⟩
end Go.Proofs.YbulkanmgRR
