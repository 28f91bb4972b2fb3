import Derived.Test.YbulkanmgRRFns
namespace Go.Proofs.YbulkanmgRR
set_option linter.unusedVariables false
set_option linter.unusedSimpArgs false
open Go.RowKit

/-- A pointer to the head of a block, or nil. -/
def hd : Option Nat → Option Addr
  | none => none
  | some b => some ⟨b, 0, none⟩

/-- The place that points forward to the list's next: the table's head, or the one before's next. -/
def fwd (T : Nat) : Option Nat → Addr
  | none => ⟨T, 6, none⟩
  | some p => ⟨p, 15, none⟩
def bwd (T : Nat) : Option Nat → Addr
  | none => ⟨T, 7, none⟩
  | some q => ⟨q, 14, none⟩

/-- The world behind the list's part of 'remove'. -/
def unlinked (w : World) (T b : Nat) (p q : Option Nat) : World :=
  (((w.setCell (fwd T p) (.pointer (hd q))).setCell (bwd T q) (.pointer (hd p))).setCell ⟨b, 14, none⟩ (.pointer none)).setCell ⟨b, 15, none⟩ (.pointer none)

set_option maxRecDepth 10000 in
set_option maxHeartbeats 1000000 in
theorem remove_list (T b : Nat) (p q : Option Nat) (w : World) (h8 : w.cell? ⟨T, 8, none⟩ = some (.pointer none)) (h22 : w.cell? ⟨b, 22, none⟩ = some (.pointer none))
    (h14 : w.cell? ⟨b, 14, none⟩ = some (.pointer (hd p))) (h15 : w.cell? ⟨b, 15, none⟩ = some (.pointer (hd q)))
    (f14 : w.frozen? ⟨b, 14, none⟩ = false) (f15 : w.frozen? ⟨b, 15, none⟩ = false)
    (v1 v2 : Value) (c1 : w.cell? (fwd T p) = some v1) (g1 : w.frozen? (fwd T p) = false) (c2 : w.cell? (bwd T q) = some v2) (g2 : w.frozen? (bwd T q) = false)
    (hb : Sound w (some ⟨b, 0, none⟩)) (hp : ∀ x, p = some x → x ≠ b) (hq : ∀ x, q = some x → x ≠ b) (hT : T ≠ b) :
    Calls Yba.prog 19 #[.pointer (some ⟨T, 6, none⟩), .int .i64 2, .pointer (some ⟨b, 0, none⟩)] w fun e w' => e = .returned (.tuple #[]) ∧ ∃ n, w' = (unlinked w T b p q).drewN n := by
  have he := eql_ptr w none (some ⟨b, 0, none⟩) (fun x h => by cases h) hb false (by simp)
  have hTb : ¬ T = b := hT
  cases p with
  | none =>
    cases q with
    | none =>
      unfold unlinked
      simp only [hd, fwd, bwd] at *
      go_enter Yba.func19, Yba.ntmps19
      go_wp2
      go_end0
      exact ⟨rfl, 0, rfl⟩
    | some q =>
      have hqb : ¬ q = b := hq q rfl
      unfold unlinked
      simp only [hd, fwd, bwd] at *
      clear hp hq
      go_enter Yba.func19, Yba.ntmps19
      go_wp2
      go_region
      go_wp2
      go_end0
      exact ⟨rfl, 1, rfl⟩
  | some p =>
    have hpb : ¬ p = b := hp p rfl
    cases q with
    | none =>
      unfold unlinked
      simp only [hd, fwd, bwd] at *
      clear hp hq
      go_enter Yba.func19, Yba.ntmps19
      go_wp2
      go_region
      go_wp2
      go_end0
      exact ⟨rfl, 1, rfl⟩
    | some q =>
      have hqb : ¬ q = b := hq q rfl
      unfold unlinked
      simp only [hd, fwd, bwd] at *
      clear hp hq
      have c2' : (w.setCell ⟨p, 15, none⟩ (.pointer (some ⟨q, 0, none⟩))).cell? ⟨q, 14, none⟩ = some v2 := by
        rw [World.cell?_setCell_other _ _ _ _ (by intro h; injection h with _ h _; omega)]; exact c2
      go_enter Yba.func19, Yba.ntmps19
      go_wp2
      go_region
      go_wp2
      go_region
      go_wp2
      go_end0
      exact ⟨rfl, 2, rfl⟩
end Go.Proofs.YbulkanmgRR
