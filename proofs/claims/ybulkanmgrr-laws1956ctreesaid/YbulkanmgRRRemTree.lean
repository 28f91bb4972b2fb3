import Derived.Test.YbulkanmgRRUproot
namespace Go.Proofs.YbulkanmgRR
set_option linter.unusedVariables false
set_option linter.unusedSimpArgs false
open Go.RowKit Go.Deep

/-- What the list's part of 'remove' reads and writes. -/
structure TailOk (w : World) (T b : Nat) (p q : Option Nat) : Prop where
  h14 : w.cell? ⟨b, 14, none⟩ = some (.pointer (hd p))
  h15 : w.cell? ⟨b, 15, none⟩ = some (.pointer (hd q))
  f14 : w.frozen? ⟨b, 14, none⟩ = false
  f15 : w.frozen? ⟨b, 15, none⟩ = false
  c1 : ∃ v, w.cell? (fwd T p) = some v
  g1 : w.frozen? (fwd T p) = false
  c2 : ∃ v, w.cell? (bwd T q) = some v
  g2 : w.frozen? (bwd T q) = false

set_option maxRecDepth 10000 in
set_option maxHeartbeats 1000000 in
theorem remove_tree (T b : Nat) (p q : Option Nat) (w : World) (Φ : World → Prop) (hΦ : ∀ w1, Φ w1 → TailOk w1 T b p q) (root up : Option Addr) (h8 : w.cell? ⟨T, 8, none⟩ = some (.pointer root)) (h22 : w.cell? ⟨b, 22, none⟩ = some (.pointer up))
    (hs : Sound w root) (hb : Sound w (some ⟨b, 0, none⟩)) (ht : root = some ⟨b, 0, none⟩ ∨ (root ≠ some ⟨b, 0, none⟩ ∧ ∃ x, up = some x))
    (hU : Calls Yba.prog 25 #[.pointer (some ⟨T, 6, none⟩), .int .i64 2, .pointer (some ⟨b, 0, none⟩)] w fun e w' => e = .returned (.tuple #[]) ∧ Φ w')
    (hp : ∀ x, p = some x → x ≠ b) (hq : ∀ x, q = some x → x ≠ b) (hT : T ≠ b) :
    Calls Yba.prog 19 #[.pointer (some ⟨T, 6, none⟩), .int .i64 2, .pointer (some ⟨b, 0, none⟩)] w fun e w' => e = .returned (.tuple #[]) ∧ ∃ w1 n, Φ w1 ∧ w' = (unlinked w1 T b p q).drewN n := by
  have HU : Hid (Calls Yba.prog 25 #[.pointer (some ⟨T, 6, none⟩), .int .i64 2, .pointer (some ⟨b, 0, none⟩)] w fun e w' => e = .returned (.tuple #[]) ∧ Φ w') := hU
  have HΦ : Hid (∀ w1, Φ w1 → TailOk w1 T b p q) := hΦ
  have hTb : ¬ T = b := hT
  have he : ∃ r, (binOp .eql 66 (.pointer root) (.pointer (some ⟨b, 0, none⟩))).run Yba.prog w = .ok (.bool r) w ∧ (r = true ∨ (r = false ∧ ∃ x, up = some x)) := by
    rcases ht with rfl | ⟨h1, h2⟩
    · exact ⟨true, eql_ptr w _ _ hb hb true (by simp), .inl rfl⟩
    · exact ⟨false, eql_ptr w _ _ hs hb false (by simpa using h1), .inr ⟨rfl, h2⟩⟩
  clear hU hΦ ht hs hb
  obtain ⟨r, he, hr⟩ := he
  rcases hr with rfl | ⟨rfl, x, rfl⟩
  all_goals
    go_enter Yba.func19, Yba.ntmps19
    go_wp2_with fail
    refine HU.out.mono ?_
    rintro e w1 ⟨rfl, hw1⟩
    obtain ⟨h14, h15, f14, f15, ⟨v1, c1⟩, g1, ⟨v2, c2⟩, g2⟩ := HΦ.out w1 hw1
    have HW1 : Hid (Φ w1) := hw1
    clear hw1 he h8 h22
    cases p with
    | none =>
      cases q with
      | none =>
        simp only [hd, fwd, bwd] at h14 h15 c1 g1 c2 g2
        go_wp2
        go_end0
        exact ⟨rfl, w1, 0, HW1.out, rfl⟩
      | some q =>
        have hqb : ¬ q = b := hq q rfl
        simp only [hd, fwd, bwd] at h14 h15 c1 g1 c2 g2
        go_wp2
        go_region
        go_wp2
        go_end0
        exact ⟨rfl, w1, 1, HW1.out, rfl⟩
    | some p =>
      have hpb : ¬ p = b := hp p rfl
      cases q with
      | none =>
        simp only [hd, fwd, bwd] at h14 h15 c1 g1 c2 g2
        go_wp2
        go_region
        go_wp2
        go_end0
        exact ⟨rfl, w1, 1, HW1.out, rfl⟩
      | some q =>
        have hqb : ¬ q = b := hq q rfl
        simp only [hd, fwd, bwd] at h14 h15 c1 g1 c2 g2
        have c2' : (w1.setCell ⟨p, 15, none⟩ (.pointer (some ⟨q, 0, none⟩))).cell? ⟨q, 14, none⟩ = some v2 := by
          rw [World.cell?_setCell_other _ _ _ _ (by intro h; injection h with _ h _; omega)]; exact c2
        go_wp2
        go_region
        go_wp2
        go_region
        go_wp2
        go_end0
        exact ⟨rfl, w1, 2, HW1.out, rfl⟩
end Go.Proofs.YbulkanmgRR
