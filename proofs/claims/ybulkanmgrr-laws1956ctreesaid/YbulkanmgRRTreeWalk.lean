import Derived.Test.YbulkanmgRRLawTree
namespace Go.Proofs.YbulkanmgRR
set_option linter.unusedVariables false
set_option linter.unusedSimpArgs false
open Go.RowKit Go.Deep

theorem ptrs_others (B k m : Nat) : ptrs B ((List.range m).map (ek k)) = others B k m := by simp [ptrs, others]

theorem row_cells {w : World} {base n : Nat} {ao : Option Addr} {cap : Nat} {xs : List Value} (h : w.ownsRow base 66 1 (.slice ao n cap) n xs) (hn : 0 < n) : ∃ g, ao = some ⟨g, 0, none⟩ ∧ g < w.heap.size ∧ ∀ j, j < n → w.cell? ⟨g, j, none⟩ = xs[j]? := by
  rcases h.2 with ⟨h', h0⟩ | ⟨g, cap', cur, h', hb, hg, _⟩
  · omega
  · simp only [Value.slice.injEq] at h'
    obtain ⟨rfl, _, rfl⟩ := h'
    exact ⟨g, rfl, (Array.getElem?_eq_some_iff.1 hg).1, fun j hj => h.cellAt j (by omega)⟩

set_option maxRecDepth 10000 in
set_option maxHeartbeats 1000000 in
theorem tree_walk (m j k : Nat) (seed wait : Int) (w : World) (hm : m ≤ 255) (hj : j ≤ 255) (hi : (j : Int) % ((m : Int) + 1) = (k : Int)) (hk : k < m + 1) :
    Calls Yba.prog 5 #[.int .u8 m, .int .u8 j, .int .u64 seed, .int .i64 wait] w fun e w' => e = .returned (.bool true) ∧ Below w.heap.size w w' := by
  have hmI : (m : Int) ≤ 255 := by omega
  have hjI : (j : Int) ≤ 255 := by omega
  have hkI : (k : Int) < (m : Int) + 1 := by omega
  go_enter Yba.func5, Yba.ntmps5
  go_wp2_with fail
  refine (setup_tree m seed wait _ hm).mono ?_
  rintro e w1 ⟨T, f0, g0, t0, rfl, hpl⟩
  have c0 := hpl.mem.row k hk
  have HP : Hid (Planted w w1 w.heap.size m T f0 g0 (fun i => some ⟨w.heap.size + 1 + 2 * i, 0, none⟩) wait t0) := hpl
  clear hpl
  go_wp2_with fail
  have hch : Chained f0 m := ⟨fun i hi => by rw [(HP.out.links i).1]; exact chain_14 m i hi, fun i hi => by rw [(HP.out.links i).2]; exact chain_15 m i hi⟩
  refine (unwait_ex hk HP.out.top (remove_mem_tree HP.out.mem hk hch HP.out.top HP.out.tree HP.out.root HP.out.nodes List.nodup_range' (fun i hi => by rw [List.mem_range'_1] at hi; omega) (by rw [List.mem_range'_1]; omega))).mono ?_
  rintro e w2 ⟨rfl, f', g', ⟨f, g, t, rfl, rfl, ht, hrt, ⟨P, Q, hPQ, hio⟩, hcl, hlk, hen⟩, hmem, hbel2⟩
  have hch2 : Chained f m := ⟨fun i hi => by rw [(hlk i).1]; exact hch.f14 i hi, fun i hi => by rw [(hlk i).2]; exact hch.f15 i hi⟩
  have hg6 : g 6 = some 0 := hen.1.trans HP.out.hd6
  have hg7 : g 7 = some m := hen.2.trans HP.out.tl7
  have hio' : io t = (List.range m).map (ek k) := hio.trans (nodes_others hPQ)
  have HB2 : Hid (Below w.heap.size w w2) := HP.out.bel.trans hbel2
  have HT : Hid (IsT (unF f k) t none ∧ rt t = unG f g k 8 ∧ io t = (List.range m).map (ek k) ∧ unF f k k 22 = none ∧ unF f k k 23 = none ∧ unF f k k 24 = none) :=
    ⟨IsT.congr _ _ (fun i _ => ⟨unF_other _ _ _ _ (by decide) (by decide), unF_other _ _ _ _ (by decide) (by decide), unF_other _ _ _ _ (by decide) (by decide)⟩) ht, by rw [unG_8]; exact hrt, hio', by rw [unF_other _ _ _ _ (by decide) (by decide)]; exact hcl.1, by rw [unF_other _ _ _ _ (by decide) (by decide)]; exact hcl.2.1, by rw [unF_other _ _ _ _ (by decide) (by decide)]; exact hcl.2.2⟩
  have HM2 : Hid (Mem w2 w.heap.size (m + 1) T (unF f k) (upd1 (fun i => some ⟨w.heap.size + 1 + 2 * i, 0, none⟩) k none) (unG f g k) (wrap64 (wait - 1))) := hmem
  have HCH : Hid (Chained f m ∧ g 6 = some 0 ∧ g 7 = some m) := ⟨hch2, hg6, hg7⟩
  clear hmem hch hch2 HP c0 ht hrt hPQ hio hcl hlk hen hio' hg6 hg7 hbel2
  go_wp2_with fail
  refine (check_any w.heap.size m k T (m + 1) _ _ _ _ _ wait HM2.out hk hm (law_head hk HCH.out.1 HCH.out.2.1) (law_next hk HCH.out.1) (law_tail hk HCH.out.1 HCH.out.2.2) (law_prev hk HCH.out.1) (unF_k14 _ _) (unF_k15 _ _) (by simp [upd1]) (fun i hi hne => ⟨_, by simp only [upd1]; rw [if_neg hne]⟩) rfl).mono ?_
  rintro e w3 ⟨rfl, hbel3⟩
  have HM3 : Hid (Mem w3 w.heap.size (m + 1) T (unF f k) (upd1 (fun i => some ⟨w.heap.size + 1 + 2 * i, 0, none⟩) k none) (unG f g k) (wrap64 (wait - 1))) := HM2.out.below hbel3 (by omega)
  have HB3 : Hid (Below w.heap.size w w3) := HB2.out.trans (hbel3.mono (by have := HB2.out.size; omega))
  have c0 := HM3.out.row k hk
  have c22 := HM3.out.ptr k 22 hk (by unfold IsPtr; omega)
  have c23 := HM3.out.ptr k 23 hk (by unfold IsPtr; omega)
  have c24 := HM3.out.ptr k 24 hk (by unfold IsPtr; omega)
  rw [HT.out.2.2.2.1, ad_none] at c22
  rw [HT.out.2.2.2.2.1, ad_none] at c23
  rw [HT.out.2.2.2.2.2, ad_none] at c24
  have c8 := HM3.out.tptr 8 (by decide) (by decide)
  rw [← HT.out.2.1] at c8
  have hnil : ∀ wx, (Op.equalIn 9999 66 (.pointer none) (.pointer none)).run Yba.prog wx = .ok true wx := fun wx => eqlIn_ptr wx none none (fun _ h => by cases h) (fun _ h => by cases h) 9998 true (by simp)
  clear hbel3 HB2 HM2
  have CI : Hid (Calls Yba.prog 12 #[.pointer (ad w.heap.size (rt t)), .pointer none, .slice none 0 0, .int .i64 0] w3 fun e w' => ∃ ao' cap', e = .returned (.tuple #[.slice ao' m cap', .bool true]) ∧ w'.ownsRow w3.heap.size 66 1 (.slice ao' m cap') m (others w.heap.size k m) ∧ Below w3.heap.size w3 w') := by
    have hlen : (io t).length = m := by rw [HT.out.2.2.1]; simp
    have h0 := inorder_any (base := w3.heap.size) (World.block_lt_of_cell? w3 _ c0) (World.block_lt_of_cell? w3 _ c8) (fun i hi => World.block_lt_of_cell? w3 _ (HM3.out.wts i hi)) t none 0 none 0 0 [] w3 HM3.out HT.out.1 (fun i hi => by
      rw [HT.out.2.2.1] at hi
      obtain ⟨a, ha, rfl⟩ := List.mem_map.1 hi
      exact ek_lt hk (List.mem_range.1 ha)) (fun _ e => by cases e) (by omega) (by omega) (World.ownsRow_nil _ _ _ _) (Nat.le_refl _)
    rw [hlen, Nat.zero_add] at h0
    rw [HT.out.2.2.1, ptrs_others, List.nil_append] at h0
    exact h0
  go_wp2_with fail
  refine CI.out.mono ?_
  rintro e w4 ⟨ai, capi, rfl, hrow4, hbel4⟩
  clear CI c0 c22 c23 c24 c8 hnil
  have HM4 : Hid (Mem w4 w.heap.size (m + 1) T (unF f k) (upd1 (fun i => some ⟨w.heap.size + 1 + 2 * i, 0, none⟩) k none) (unG f g k) (wrap64 (wait - 1))) := HM3.out.below hbel4 (by omega)
  have HB4 : Hid (Below w.heap.size w w4) := HB3.out.trans (hbel4.mono (by have := HB3.out.size; omega))
  have HR4 : Hid (w4.ownsRow w3.heap.size 66 1 (.slice ai m capi) m (others w.heap.size k m)) := hrow4
  clear hrow4 hbel4 HM3 HB3
  go_wp2_with fail
  refine (expected_m w.heap.size m k (m + 1) _ HM4.out.row hk hm).mono ?_
  rintro e w5 ⟨rfl, hrow5, hbel5⟩
  have HM5 : Hid (Mem w5 w.heap.size (m + 1) T (unF f k) (upd1 (fun i => some ⟨w.heap.size + 1 + 2 * i, 0, none⟩) k none) (unG f g k) (wrap64 (wait - 1))) := HM4.out.below hbel5 (by omega)
  have HB5 : Hid (Below w.heap.size w w5) := HB4.out.trans (hbel5.mono (by have := HB4.out.size; omega))
  have HX : Hid (∀ q, q < m → ∃ gi, ai = some ⟨gi, 0, none⟩ ∧ w5.cell? ⟨gi, q, none⟩ = some (.pointer (some ⟨bk w.heap.size (ek k q), 0, none⟩)) ∧ w5.cell? ⟨w4.heap.size, q, none⟩ = some (.pointer (some ⟨bk w.heap.size (ek k q), 0, none⟩))) := by
    intro q hq
    obtain ⟨gi, e1, e2, e3⟩ := row_cells HR4.out (by omega)
    refine ⟨gi, e1, ?_, ?_⟩
    · rw [hbel5.cell (p := ⟨gi, q, none⟩) e2, e3 q hq]; exact others_at _ k m q hq
    · rw [hrow5.cellAt q (by omega)]; exact others_at _ k m q hq
  clear hrow5 hbel5 HM4 HB4 HR4
  go_wp2_with fail
  go_loopw [16] (fun i wr => ∃ q nn : Nat, q ≤ m ∧ i = .int .i64 q ∧ wr = w5.drewN nn) (fun i _ => m - (intOf i).toNat)
  case atStart => exact ⟨0, 0, Nat.zero_le _, rfl, rfl⟩
  case round =>
    obtain ⟨q, nn, hq, rfl, rfl⟩ := hrel
    by_cases hlt : q < m
    · obtain ⟨gi, e1, cx, cy⟩ := HX.out q hlt
      have hneq : ∀ n', (binOp .neq 66 (.pointer (some ⟨bk w.heap.size (ek k q), 0, none⟩)) (.pointer (some ⟨bk w.heap.size (ek k q), 0, none⟩))).run Yba.prog (w5.drewN n') = .ok (.bool false) (w5.drewN n') := fun n' => by
        have hs : Sound (w5.drewN n') (some ⟨bk w.heap.size (ek k q), 0, none⟩) := (HM5.out.drewN n').sound (x := some (ek k q)) (fun i e => by injection e with e; have := ek_lt hk hlt; omega)
        exact neq_ptr _ _ _ hs hs false (by simp)
      have hqI : (q : Int) < (m : Int) := by omega
      subst e1
      go_wp2_with fail
      go_quiet (fail)
      go_wp2
      go_roundw
      case rel => exact ⟨q + 1, _, by omega, by go_num, rfl⟩
      case measure => simp [intOf]; omega
    · have hqI : ¬ (q : Int) < (m : Int) := by omega
      go_wp2
      go_ret
      exact ⟨rfl, below_drewN HB5.out nn⟩
end Go.Proofs.YbulkanmgRR
