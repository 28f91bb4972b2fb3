import Derived.Test.YbulkanmgRRPush
import Derived.Test.YbulkanmgRRSet
namespace Go.Proofs.YbulkanmgRR
set_option linter.unusedVariables false
set_option linter.unusedSimpArgs false
open Go.RowKit

/-- The part at o when j sets have been pushed, since the world W1. -/
def Filled (W1 wr : World) (P o : Nat) (f : Nat → Option Value) (j : Nat) : Prop :=
  ∃ (f' : Nat → Option Value) (q : Option Addr) (cap : Nat) (L : Int) (xs : List Value), PM wr P f' ∧ (∀ x, x ≠ o + 2 → x ≠ o + 3 → f' x = f x) ∧ f' (o + 2) = some (.slice q j cap) ∧ f' (o + 3) = some (.int .i64 L) ∧ 0 ≤ L ∧ L ≤ 31 * j ∧
    wr.ownsRow W1.heap.size 51 1 (.slice q j cap) j xs ∧
    (∀ x, x ∈ xs → ∃ (b0 : Nat) (c0 : Int), x = .pointer (some ⟨b0, 0, none⟩) ∧ wr.cell? ⟨b0, 1, none⟩ = some (.int .i64 c0) ∧ 0 ≤ c0 ∧ c0 ≤ 1000 ∧ b0 ≠ P ∧ (Value.slice q j cap).ownBlock ≠ some b0) ∧ Fr (· = P) W1 wr

theorem filled_push {W1 wr wr2 : World} {P o j c : Nat} {f : Nat → Option Value} (h : Filled W1 wr P o f j) (hP : P < W1.heap.size) (hb : Below wr.heap.size wr wr2) (hset : SetAt wr2 wr.heap.size c) (hc : c ≤ 31) (hj : j ≤ 1000) :
    Calls Yba.prog 14 #[.pointer (some ⟨P, o, none⟩), .pointer (some ⟨wr.heap.size, 0, none⟩)] wr2 fun e w' => e = .returned (.tuple #[]) ∧ Filled W1 w' P o f (j + 1) := by
  obtain ⟨f', q, cap, L, xs, h1, h2, h3, h4, h5, h6, h7, h8, h9⟩ := h
  obtain ⟨fs, T1, T2, T3⟩ := hset.hd
  have hsz := h9.size
  have hwl := T1.lt
  have F2 : Fr (fun _ => False) wr wr2 := Fr.of_below hb
  have own2 := own_fr h7 F2 (fun _ _ h => h)
  refine (push_any P o wr.heap.size f' q j cap L c W1.heap.size xs wr2 (h1.fr F2 (fun h => h)) h3 h4 ((T1.cell 1).trans T3) own2 hP (by have := hb.size; omega) hj (by omega) (by omega)).mono ?_
  rintro e w' ⟨rfl, g, cap', J1, J2, J3, J4, J5⟩
  refine ⟨rfl, _, some ⟨g, 0, none⟩, cap', L + c, _, J1, fun x hx1 hx2 => ?_, put1_same _ _ _, ?_, by omega, by omega, J2, fun x hx => ?_, ?_⟩
  · rw [put1_other _ _ hx1, put1_other _ _ hx2]; exact h2 x hx1 hx2
  · rw [put1_other _ _ (by omega), put1_same]
  · have hg : ∀ b0, b0 < wr2.heap.size → (Value.slice q j cap).ownBlock ≠ some b0 → (Value.slice (some ⟨g, 0, none⟩) (j + 1) cap').ownBlock ≠ some b0 := by
      intro b0 hb0 hne e
      have e' : some g = some b0 := e
      injection e' with e'
      subst e'
      rcases J5 with J5 | J5
      · exact hne J5
      · omega
    rcases List.mem_append.1 hx with hx | hx
    · obtain ⟨b0, c0, r1, r2, r3, r4, r5, r6⟩ := h8 x hx
      have hl0 := World.block_lt_of_cell? wr _ r2
      have hl2 : b0 < wr2.heap.size := Nat.lt_of_lt_of_le hl0 hb.size
      refine ⟨b0, c0, r1, ?_, r3, r4, r5, hg b0 hl2 r6⟩
      exact (J3.cell (p := ⟨b0, 1, none⟩) hl2 (fun e => by rcases e with e | e; exact r5 e; exact r6 e)).trans ((hb.cell (p := ⟨b0, 1, none⟩) hl0).trans r2)
    · simp only [List.mem_singleton] at hx
      have hno : (Value.slice q j cap).ownBlock ≠ some wr.heap.size := fun e => by have := (h7.lt _ e).2; omega
      refine ⟨wr.heap.size, c, hx, ?_, by omega, by omega, by omega, hg _ hwl hno⟩
      refine (J3.cell (p := ⟨wr.heap.size, 1, none⟩) hwl (fun e => ?_)).trans ((T1.cell 1).trans T3)
      rcases e with e | e
      · have e' : wr.heap.size = P := e
        omega
      · exact hno e
  · refine ⟨J3.os.trans (hb.os.trans h9.os), J3.tape.trans (hb.tape.trans h9.tape), J3.output.trans (hb.output.trans h9.output), Nat.le_trans h9.size (Nat.le_trans hb.size J3.size), fun k hk hs => ?_⟩
    have hk1 : k < wr.heap.size := by omega
    refine (J3.block k (Nat.lt_of_lt_of_le hk1 hb.size) (fun e => ?_)).trans ((hb.block k hk1).trans (h9.block k hk hs))
    rcases e with e | e
    · exact hs e
    · have := (h7.lt k e).1; omega
end Go.Proofs.YbulkanmgRR
