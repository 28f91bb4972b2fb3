import Derived.Test.YbulkanmgRRPure
namespace Go.Proofs.YbulkanmgRR
set_option linter.unusedVariables false
set_option linter.unusedSimpArgs false
open Go.RowKit

theorem chained_chain (m : Nat) : Chained (chain (m + 1) (m + 1)) m := ⟨fun i hi => chain_14 m i hi, fun i hi => chain_15 m i hi⟩

set_option maxRecDepth 10000 in
set_option maxHeartbeats 400000 in
theorem list_walk (m j k : Nat) (seed wait : Int) (w : World) (hm : m ≤ 255) (hj : j ≤ 255) (hi : (j : Int) % ((m : Int) + 1) = (k : Int)) (hk : k < m + 1) :
    Calls Yba.prog 4 #[.int .u8 m, .int .u8 j, .int .u64 seed, .int .i64 wait] w fun e w' => e = .returned (.bool true) ∧ Below w.heap.size w w' := by
  have hmI : (m : Int) ≤ 255 := by omega
  have hjI : (j : Int) ≤ 255 := by omega
  have hkI : (k : Int) < (m : Int) + 1 := by omega
  go_enter Yba.func4, Yba.ntmps4
  go_wp2_with fail
  refine (setup_list m seed wait _ hm).mono ?_
  rintro e w1 ⟨T, rfl, hmem, hbel, hT⟩
  have c0 := hmem.row k hk
  have HM : Hid (Mem w1 w.heap.size (m + 1) T (chain (m + 1) (m + 1)) (fun i => some ⟨w.heap.size + 1 + 2 * i, 0, none⟩) (ends m) wait) := hmem
  clear hmem
  go_wp2_with fail
  have hch := chained_chain m
  refine (unwait_of hk hT (remove_mem HM.out hk (prev_ok hk hch) (next_ok hk hch) rfl (by simp [chain, hk]) hT)).mono ?_
  rintro e w2 ⟨rfl, hmem, hbel2⟩
  clear c0
  have c8 := hmem.tptr 8 (by decide) (by decide)
  rw [unG_8] at c8
  have e8 : ends m 8 = none := rfl
  rw [e8, ad_none] at c8
  clear e8
  have HM2 : Hid (Mem w2 w.heap.size (m + 1) T (unF (chain (m + 1) (m + 1)) k) (upd1 (fun i => some ⟨w.heap.size + 1 + 2 * i, 0, none⟩) k none) (unG (chain (m + 1) (m + 1)) (ends m) k) (wrap64 (wait - 1))) := hmem
  have HCH : Hid (Chained (chain (m + 1) (m + 1)) m) := hch
  clear hmem hch HM
  go_wp2_with fail
  refine (check_any w.heap.size m k T (m + 1) _ _ _ _ _ wait HM2.out hk hm (law_head hk HCH.out rfl) (law_next hk HCH.out) (law_tail hk HCH.out rfl) (law_prev hk HCH.out) (unF_k14 _ _) (unF_k15 _ _) (by simp [upd1]) (fun i hi hne => ⟨_, by simp only [upd1]; rw [if_neg hne]⟩) rfl).mono ?_
  rintro e w3 ⟨rfl, hbel3⟩
  go_wp2
  go_ret
  exact ⟨rfl, hbel.trans (hbel2.trans (hbel3.mono (by have := hbel.size; have := hbel2.size; omega)))⟩
end Go.Proofs.YbulkanmgRR
