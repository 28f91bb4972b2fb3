import Derived.Test.YbulkanmgRRSetup
import Derived.Test.YbulkanmgRRBuildT
namespace Go.Proofs.YbulkanmgRR
set_option linter.unusedVariables false
set_option linter.unusedSimpArgs false
open Go.RowKit Go.Deep

/-- What the set-up with a tree leaves. -/
structure Planted (w w' : World) (B n T : Nat) (f : Nat → Nat → Option Nat) (g : Nat → Option Nat) (wt : Nat → Option Addr) (wait : Int) (t : BT Unit) : Prop where
  mem : Mem w' B (n + 1) T f wt g wait
  tree : IsT f t none
  root : g 8 = rt t
  nodes : io t = List.range' 0 (n + 1 - 0)
  links : ∀ i, f i 14 = chain (n + 1) (n + 1) i 14 ∧ f i 15 = chain (n + 1) (n + 1) i 15
  hd6 : g 6 = some 0
  tl7 : g 7 = some n
  bel : Below B w w'
  top : B ≤ T

set_option maxRecDepth 10000 in
set_option maxHeartbeats 1000000 in
theorem setup_tree (n : Nat) (seed wait : Int) (w : World) (hn : n ≤ 255) :
    Calls Yba.prog 9 #[.int .i64 ((n : Int) + 1), .int .u64 seed, .int .i64 wait, .bool true] w fun e w' => ∃ T f g t, e = .returned (.tuple #[.pointer (some ⟨T, 0, none⟩), .slice (some ⟨w.heap.size, 0, none⟩) (n + 1) (n + 1)]) ∧
      Planted w w' w.heap.size n T f g (fun i => some ⟨w.heap.size + 1 + 2 * i, 0, none⟩) wait t := by
  have hmk := run_make_row' (P := Yba.prog) 62 66 (.pointer none) 8 Yba.underlying62 Yba.info66 rfl .i64 .i64 (n + 1) (by omega) (by omega)
  rw [show ((n + 1 : Nat) : Int) = (n : Int) + 1 from by omega] at hmk
  go_enter Yba.func9, Yba.ntmps9
  go_wp2
  clear hmk
  go_loopw [11] (fun i wr => ∃ k : Nat, k ≤ n + 1 ∧ i = .int .i64 k ∧ Made w wr w.heap.size (n + 1) k (fun _ _ => none) (fun i => some ⟨w.heap.size + 1 + 2 * i, 0, none⟩)) (fun i _ => n + 1 - (intOf i).toNat)
  case atStart =>
    refine ⟨0, Nat.zero_le _, rfl, fun i hi => by omega, fun i o hi => by omega, fun i hi => by omega, fun i hi => by omega, ?_, by simp, (Below.refl _ _).alloc (Nat.le_refl _) _⟩
    simpa using World.rowIs_made w (.pointer none) (n + 1) 66
  case round =>
    obtain ⟨k, hk, rfl, hm⟩ := hrel
    have HM : Hid (Made w wr w.heap.size (n + 1) k (fun _ _ => none) (fun i => some ⟨w.heap.size + 1 + 2 * i, 0, none⟩)) := hm
    have hlk := hm.row.lt
    by_cases hlt : k < n + 1
    · have hc := hm.row.cell hlt
      have hf := hm.row.frozen k
      clear hm
      simp only [Nat.lt_irrefl, if_false] at hc
      have hltI : (k : Int) < (n : Int) + 1 := by omega
      go_wp2
      go_roundw
      case rel =>
        refine ⟨k + 1, by omega, by go_num, ?_⟩
        refine HM.out.step hlt _ _ _ rfl ?_ ?_
        · have := HM.out.size; simp [this]
        · intro o ho
          rcases ho with rfl | rfl | rfl | rfl | rfl <;> rfl
      case measure => simp [intOf]; omega
    · have hkn : k = n + 1 := by omega
      subst hkn
      clear hm hlk
      have hlI : ¬ ((n + 1 : Nat) : Int) < (n : Int) + 1 := by omega
      go_wp2
      go_loopw [12] (fun i wr => ∃ q : Nat, q ≤ n + 1 ∧ i = .int .i64 q ∧ Made w wr w.heap.size (n + 1) (n + 1) (chain (n + 1) q) (fun i => some ⟨w.heap.size + 1 + 2 * i, 0, none⟩)) (fun i _ => n + 1 - (intOf i).toNat)
      case atStart => exact ⟨0, Nat.zero_le _, rfl, HM.out.congr (fun i o _ _ => by simp [chain])⟩
      case round =>
        clear HM
        obtain ⟨q, hq, rfl, hm⟩ := hrel
        have HM : Hid (Made w wr w.heap.size (n + 1) (n + 1) (chain (n + 1) q) (fun i => some ⟨w.heap.size + 1 + 2 * i, 0, none⟩)) := hm
        by_cases hlt : q < n + 1
        · have cq := hm.row.cell hlt
          have p14 := hm.ptr q 14 hlt (by unfold IsPtr; omega)
          have p15 := hm.ptr q 15 hlt (by unfold IsPtr; omega)
          have f14 := frozen_of_row wr (bk w.heap.size q) 14 _ 97 (hm.blk q hlt).choose_spec
          have f15 := frozen_of_row wr (bk w.heap.size q) 15 _ 97 (hm.blk q hlt).choose_spec
          rw [if_pos hlt] at cq
          have hBq : ¬ w.heap.size = bk w.heap.size q := fun e => bk_B _ _ e.symm
          have hBq' : ¬ bk w.heap.size q = w.heap.size := fun e => bk_B _ _ e
          have hltI : (q : Int) < (n : Int) + 1 := by omega
          cases q with
          | zero =>
            by_cases hl : 0 < n
            · have c1 := hm.row.cell (show 1 < n + 1 by omega)
              rw [if_pos (show 1 < n + 1 by omega)] at c1
              clear hm
              have h1I : (1 : Int) < (n : Int) + 1 := by omega
              go_wp2
              go_region
              go_wp2
              go_roundw
              case rel => exact ⟨1, by omega, rfl, ((HM.out.setPtr (k := 0) (o := 15) (by omega) (by unfold IsPtr; omega) (some 1)).drew).congr (fun i o _ _ => chain_next (n + 1) 0 (by omega) (by omega) i o)⟩
              case measure => first | (simp [intOf]; done) | (simp [intOf]; omega)
            · clear hm
              have h1I : ¬ (1 : Int) < (n : Int) + 1 := by omega
              go_wp2
              go_roundw
              case rel => exact ⟨1, by omega, rfl, HM.out.congr (fun i o _ _ => chain_none (n + 1) 0 (by omega) (by omega) i o)⟩
              case measure => first | (simp [intOf]; done) | (simp [intOf]; omega)
          | succ q =>
            have cp := hm.row.cell (show q < n + 1 by omega)
            rw [if_pos (show q < n + 1 by omega)] at cp
            have h0I : (0 : Int) < (q : Int) + 1 := by omega
            have hqI : (q : Int) < (n : Int) + 1 := by omega
            by_cases hl : q + 1 < n
            · have c1 := hm.row.cell (show q + 2 < n + 1 by omega)
              rw [if_pos (show q + 2 < n + 1 by omega)] at c1
              clear hm
              have h1I : (q : Int) + 1 + 1 < (n : Int) + 1 := by omega
              go_wp2
              go_region
              go_wp2
              go_region
              go_wp2
              go_roundw
              case rel => exact ⟨q + 2, by omega, by go_num, (((HM.out.setPtr (k := q + 1) (o := 14) (by omega) (by unfold IsPtr; omega) (some q)).setPtr (k := q + 1) (o := 15) (by omega) (by unfold IsPtr; omega) (some (q + 2))).drew.drew).congr (fun i o _ _ => chain_both (n + 1) (q + 1) (by omega) (by omega) i o)⟩
              case measure => first | (simp [intOf]; done) | (simp [intOf]; omega)
            · clear hm
              have h1I : ¬ (q : Int) + 1 + 1 < (n : Int) + 1 := by omega
              go_wp2
              go_region
              go_wp2
              go_roundw
              case rel => exact ⟨q + 2, by omega, by go_num, ((HM.out.setPtr (k := q + 1) (o := 14) (by omega) (by unfold IsPtr; omega) (some q)).drew).congr (fun i o _ _ => chain_prev (n + 1) (q + 1) (by omega) (by omega) i o)⟩
              case measure => first | (simp [intOf]; done) | (simp [intOf]; omega)
        · have hqn : q = n + 1 := by omega
          subst hqn
          have c0 := hm.row.cell (show 0 < n + 1 by omega)
          rw [if_pos (show 0 < n + 1 by omega)] at c0
          have cn := hm.row.cell (show n < n + 1 by omega)
          rw [if_pos (show n < n + 1 by omega)] at cn
          have hBw := hm.row.lt
          clear hm
          have hlI : ¬ ((n + 1 : Nat) : Int) < (n : Int) + 1 := by omega
          have h0I : (0 : Int) < (n : Int) + 1 := by omega
          have CB : Hid (∀ (f : Nat → Nat → Option Nat) (g : Nat → Option Nat) (T : Nat) (wx : World), Mem wx w.heap.size (n + 1) T f (fun i => some ⟨w.heap.size + 1 + 2 * i, 0, none⟩) g wait →
              Calls Yba.prog 18 #[.slice (some ⟨w.heap.size, 0, none⟩) (n + 1) (n + 1), .int .i64 0, .int .i64 ((n : Int) + 1), .pointer none] wx fun e w' => ∃ t f', e = .returned (.pointer (ad w.heap.size (rt t))) ∧ Grew wx w' w.heap.size (n + 1) T f f' (fun i => some ⟨w.heap.size + 1 + 2 * i, 0, none⟩) g wait 0 (n + 1) none t) := by
            intro f g T wx hx
            exact build_any (by omega) (n + 1) 0 (n + 1) (by omega) (Nat.le_refl _) none f wx hx
          go_wp2_with fail
          refine (CB.out (chain (n + 1) (n + 1)) (ends n) wr.heap.size _ (HM.out.table _ _ _ (fun o h1 h2 => ?_) rfl)).mono ?_
          · obtain rfl | rfl | rfl : o = 6 ∨ o = 7 ∨ o = 8 := by omega
            all_goals rfl
          rintro e w2 ⟨t, f', rfl, hg⟩
          have c8 := hg.mem.tptr 8 (by decide) (by decide)
          have z8 := hg.mem.tfree 8
          have hb2 : Below w.heap.size w w2 := (HM.out.bel.alloc (by omega) _).trans hg.bel
          have HG : Hid (Mem w2 w.heap.size (n + 1) wr.heap.size f' (fun i => some ⟨w.heap.size + 1 + 2 * i, 0, none⟩) (ends n) wait ∧ IsT f' t none ∧ io t = List.range' 0 (n + 1 - 0) ∧ (∀ i, f' i 14 = chain (n + 1) (n + 1) i 14 ∧ f' i 15 = chain (n + 1) (n + 1) i 15)) := ⟨hg.mem, hg.tree, hg.nodes, hg.links⟩
          clear hg CB
          go_wp2
          go_ret2
          refine ⟨wr.heap.size, f', upd1 (ends n) 8 (rt t), t, rfl, ⟨HG.out.1.setTab (by decide) (by decide) (rt t), HG.out.2.1, by simp [upd1], HG.out.2.2.1, fun i => HG.out.2.2.2 i, by simp [upd1, ends], by simp [upd1, ends], hb2.setCell (p := ⟨wr.heap.size, 8, none⟩) (by show w.heap.size ≤ wr.heap.size; omega) _, by omega⟩⟩
end Go.Proofs.YbulkanmgRR
