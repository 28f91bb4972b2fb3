import Derived.Test.YbulkanmgRRExpected
namespace Go.Proofs.YbulkanmgRR
set_option linter.unusedVariables false
set_option linter.unusedSimpArgs false
open Go.RowKit

/-- The j-th of the m others than k, from the front; and the one ahead of it. -/
def nth (k m j : Nat) : Option Nat := if j < m then some (ek k j) else none
def prv (k j : Nat) : Option Nat := if j = 0 then none else some (ek k (j - 1))

theorem expected_m (B m k cap : Nat) (w : World) (hrow : ∀ i, i < m + 1 → w.cell? ⟨B, i, none⟩ = some (.pointer (some ⟨bk B i, 0, none⟩))) (hk : k < m + 1) (hn : m ≤ 255) :
    Calls Yba.prog 13 #[.slice (some ⟨B, 0, none⟩) (m + 1) cap, .int .i64 k] w fun e w' => e = .returned (.slice (some ⟨w.heap.size, 0, none⟩) m (m + 1)) ∧
      w'.ownsRow w.heap.size 66 1 (.slice (some ⟨w.heap.size, 0, none⟩) m (m + 1)) m (others B k m) ∧ Below w.heap.size w w' :=
  expected_any B (m + 1) k cap w hrow hk (by omega)

theorem ek_lt {k m j : Nat} (hk : k < m + 1) (hj : j < m) : ek k j < m + 1 := by unfold ek; split <;> omega

set_option maxRecDepth 10000 in
set_option maxHeartbeats 1000000 in
theorem check_any (B m k T cap : Nat) (w : World) (f : Nat → Nat → Option Nat) (wt : Nat → Option Addr) (g : Nat → Option Nat) (wait wait0 : Int) (h : Mem w B (m + 1) T f wt g wait) (hk : k < m + 1) (hn : m ≤ 255)
    (hf0 : g 6 = nth k m 0) (hf : ∀ j, j < m → f (ek k j) 15 = nth k m (j + 1)) (hb0 : g 7 = prv k m) (hb : ∀ j, j < m → f (ek k j) 14 = prv k j)
    (h14 : f k 14 = none) (h15 : f k 15 = none) (hw : wt k = none) (hwn : ∀ i, i < m + 1 → i ≠ k → ∃ a, wt i = some a) (hwait : wait = wrap64 (wait0 - 1)) :
    Calls Yba.prog 11 #[.pointer (some ⟨T, 0, none⟩), .slice (some ⟨B, 0, none⟩) (m + 1) cap, .int .i64 k, .int .i64 wait0] w fun e w' => e = .returned (.bool true) ∧ Below w.heap.size w w' := by
  have HF : Hid ((∀ j, j < m → f (ek k j) 15 = nth k m (j + 1)) ∧ (∀ j, j < m → f (ek k j) 14 = prv k j)) := ⟨hf, hb⟩
  have HW : Hid (∀ i, i < m + 1 → i ≠ k → ∃ a, wt i = some a) := hwn
  have HE : Hid (g 6 = nth k m 0 ∧ g 7 = prv k m ∧ f k 14 = none ∧ f k 15 = none ∧ wt k = none ∧ wait = wrap64 (wait0 - 1)) := ⟨hf0, hb0, h14, h15, hw, hwait⟩
  have HM0 : Hid (Mem w B (m + 1) T f wt g wait) := h
  clear hf hb hwn hf0 hb0 h14 h15 hw hwait h
  go_enter Yba.func11, Yba.ntmps11
  go_wp2_with (go_at_call 13; refine (expected_m B m k cap _ HM0.out.row hk hn).mono ?_; rintro e w1 ⟨rfl, hrow, hbel⟩; have hm := HM0.out.below hbel (by omega); have c6 := hm.tptr 6 (by decide) (by decide); rw [HE.out.1] at c6; clear hm)
  have HM : Hid (Mem w1 B (m + 1) T f wt g wait) := HM0.out.below hbel (by omega)
  have HX : Hid (∀ j, j < m → w1.cell? ⟨w.heap.size, j, none⟩ = some (.pointer (some ⟨bk B (ek k j), 0, none⟩))) := fun j hj => by
    rw [hrow.cellAt j (by omega)]; exact others_at B k m j hj
  clear HM0 hrow c6
  go_loop [11, 12] (fun c i => ∃ j : Nat, j ≤ m ∧ i = .int .i64 j ∧ c = .pointer (ad B (nth k m j))) (fun _ i => m - (intOf i).toNat)
  case atStart => exact ⟨0, Nat.zero_le _, rfl, rfl⟩
  case round =>
    obtain ⟨j, hj, rfl, rfl⟩ := hrel
    by_cases hlt : j < m
    · have e0 : nth k m j = some (ek k j) := by unfold nth; rw [if_pos hlt]
      rw [e0, ad_some]
      have cx := HX.out j hlt
      have hs : Sound w1 (some ⟨bk B (ek k j), 0, none⟩) := HM.out.sound (x := some (ek k j)) (fun i e => by injection e with e; have := ek_lt hk hlt; omega)
      have hne := neq_ptr w1 (some ⟨bk B (ek k j), 0, none⟩) (some ⟨bk B (ek k j), 0, none⟩) hs hs false (by simp)
      have c15 := HM.out.ptr (ek k j) 15 (ek_lt hk hlt) (by unfold IsPtr; omega)
      rw [HF.out.1 j hlt] at c15
      clear e0 hs
      have hjI : (j : Int) < (m : Int) := by omega
      go_wp2
      go_round
      case rel => exact ⟨j + 1, by omega, by go_num, rfl⟩
      case measure => simp [intOf]; omega
    · have hjm : j = m := by omega
      subst hjm
      have e0 : nth k j j = none := by unfold nth; rw [if_neg (by omega)]
      rw [e0, ad_none]
      clear e0
      have c7 := HM.out.tptr 7 (by decide) (by decide)
      rw [HE.out.2.1] at c7
      have hjI : ¬ (j : Int) < (j : Int) := by omega
      go_wp2
      go_loop [11, 13] (fun c i => ∃ q : Nat, q ≤ j ∧ i = .int .i64 ((q : Int) - 1) ∧ c = .pointer (ad B (prv k q))) (fun _ i => (intOf i + 1).toNat)
      case atStart => exact ⟨j, Nat.le_refl _, rfl, rfl⟩
      case round =>
        obtain ⟨q, hq, rfl, rfl⟩ := hrel
        clear c7
        cases q with
        | succ q =>
          have e0 : prv k (q + 1) = some (ek k q) := by unfold prv; rw [if_neg (by omega)]; rfl
          rw [e0, ad_some]
          have e1 : ((q + 1 : Nat) : Int) - 1 = (q : Int) := by omega
          rw [e1]
          have cx := HX.out q (by omega)
          have hs : Sound w1 (some ⟨bk B (ek k q), 0, none⟩) := HM.out.sound (x := some (ek k q)) (fun i e => by injection e with e; have := ek_lt hk (show q < j by omega); omega)
          have hne := neq_ptr w1 (some ⟨bk B (ek k q), 0, none⟩) (some ⟨bk B (ek k q), 0, none⟩) hs hs false (by simp)
          have c14 := HM.out.ptr (ek k q) 14 (ek_lt hk (show q < j by omega)) (by unfold IsPtr; omega)
          rw [HF.out.2 q (by omega)] at c14
          clear e0 hs e1
          have hjI : (q : Int) < (j : Int) := by omega
          have h0I : (0 : Int) ≤ (q : Int) := by omega
          go_wp2
          go_round
          case rel => exact ⟨q, by omega, rfl, rfl⟩
          case measure => first | (simp [intOf]; done) | (simp [intOf]; omega)
        | zero =>
          have e0 : prv k 0 = none := rfl
          rw [e0, ad_none]
          clear e0
          have c0 := HM.out.row k hk
          have c14 := HM.out.ptr k 14 hk (by unfold IsPtr; omega)
          have c15 := HM.out.ptr k 15 hk (by unfold IsPtr; omega)
          have c4 := HM.out.wts k hk
          rw [HE.out.2.2.1, ad_none] at c14
          rw [HE.out.2.2.2.1, ad_none] at c15
          rw [HE.out.2.2.2.2.1] at c4
          have hkI : (k : Int) < (j : Int) + 1 := by omega
          have hzI : ¬ (0 : Int) ≤ ((0 : Nat) : Int) - 1 := by omega
          have hnil : ∀ wx, (Op.equalIn 9999 66 (.pointer none) (.pointer none)).run Yba.prog wx = .ok true wx := fun wx => eqlIn_ptr wx none none (fun _ h => by cases h) (fun _ h => by cases h) 9998 true (by simp)
          go_wp2
          clear hnil c0 c14 c15 c4
          go_loop [15] (fun i => ∃ q : Nat, q ≤ j + 1 ∧ i = .int .i64 q) (fun i => j + 1 - (intOf i).toNat)
          case atStart => exact ⟨0, by omega, rfl⟩
          case round =>
            obtain ⟨q, hq, rfl⟩ := hrel
            by_cases hlt : q < j + 1
            · have hqI : (q : Int) < (j : Int) + 1 := by omega
              by_cases hqk : q = k
              · have hne : ((q : Int) != (k : Int)) = false := by simp [hqk]
                clear hqk
                go_wp2
                go_round
                case rel => exact ⟨q + 1, by omega, by go_num⟩
                case measure => simp [intOf]; omega
              · have hne : ((q : Int) != (k : Int)) = true := by rw [bne_iff_ne]; omega
                obtain ⟨a, ha⟩ := HW.out q hlt hqk
                have c0 := HM.out.row q hlt
                have c4 := HM.out.wts q hlt
                rw [ha] at c4
                clear ha hqk
                go_wp2
                go_round
                case rel => exact ⟨q + 1, by omega, by go_num⟩
                case measure => simp [intOf]; omega
            · have hqn : q = j + 1 := by omega
              subst hqn
              have hqI : ¬ ((j + 1 : Nat) : Int) < (j : Int) + 1 := by omega
              have c9 := HM.out.twt
              rw [HE.out.2.2.2.2.2] at c9
              go_wp2
              go_ret
              exact ⟨rfl, hbel⟩
end Go.Proofs.YbulkanmgRR
