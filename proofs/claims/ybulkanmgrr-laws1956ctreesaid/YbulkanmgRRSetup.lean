import Derived.Test.YbulkanmgRRExpected
import Derived.Deep.OwnRows
namespace Go.Proofs.YbulkanmgRR
set_option linter.unusedVariables false
set_option linter.unusedSimpArgs false
open Go.RowKit



/-- The transactions that the first loop has made: k of n. -/
structure Made (w wr : World) (B n k : Nat) (f : Nat → Nat → Option Nat) (wt : Nat → Option Addr) : Prop where
  blk : ∀ i, i < k → ∃ c, wr.heap[bk B i]? = some (.cells c 97 (0, 0))
  ptr : ∀ i o, i < k → IsPtr o → wr.cell? ⟨bk B i, o, none⟩ = some (.pointer (ad B (f i o)))
  wts : ∀ i, i < k → wr.cell? ⟨bk B i, 4, none⟩ = some (.pointer (wt i))
  tss : ∀ i, i < k → ∃ t : Int, wr.cell? ⟨bk B i, 1, none⟩ = some (.int .u64 t)
  row : wr.rowIs B 66 n (fun i => .pointer (if i < k then some ⟨bk B i, 0, none⟩ else none))
  size : wr.heap.size = B + 1 + 2 * k
  bel : Below B w wr

/-- One round of the first loop: a lock, a transaction, the row's pointer to it. -/
theorem Made.step {w wr : World} {B n k : Nat} {f : Nat → Nat → Option Nat} {wt : Nat → Option Addr} (h : Made w wr B n k f wt) (hk : k < n) (la ta : Array Value) (t : Int)
    (e1 : ta[1]? = some (.int .u64 t)) (e4 : ta[4]? = some (.pointer (wt k))) (ep : ∀ o, IsPtr o → ta[o]? = some (.pointer (ad B (f k o)))) :
    Made w (((wr.setCell ⟨B, k, none⟩ (.pointer (some ⟨wr.heap.size + 1, 0, none⟩))).alloc (.cells la 113)).alloc (.cells ta 97)) B n (k + 1) f wt := by
  have hs := h.size
  have hbk : bk B k = wr.heap.size + 1 := by unfold bk; omega
  have hBlt := h.row.lt
  -- the blocks that were there
  have old : ∀ q, q < wr.heap.size → q ≠ B → (((wr.setCell ⟨B, k, none⟩ (.pointer (some ⟨wr.heap.size + 1, 0, none⟩))).alloc (.cells la 113)).alloc (.cells ta 97)).heap[q]? = wr.heap[q]? := by
    intro q hq hB
    rw [Below.heap_alloc _ _ _ (by simp; omega), Below.heap_alloc _ _ _ (by simp; omega), heap_setCell_other _ _ _ _ hB]
  have oldc : ∀ q o, q < wr.heap.size → q ≠ B → (((wr.setCell ⟨B, k, none⟩ (.pointer (some ⟨wr.heap.size + 1, 0, none⟩))).alloc (.cells la 113)).alloc (.cells ta 97)).cell? ⟨q, o, none⟩ = wr.cell? ⟨q, o, none⟩ :=
    fun q o hq hB => World.cell?_of_block (w := wr) (a := ⟨q, o, none⟩) (old q hq hB)
  have newb : (((wr.setCell ⟨B, k, none⟩ (.pointer (some ⟨wr.heap.size + 1, 0, none⟩))).alloc (.cells la 113)).alloc (.cells ta 97)).heap[bk B k]? = some (.cells ta 97 (0, 0)) := by
    rw [hbk]
    have e := heap_alloc_new ((wr.setCell ⟨B, k, none⟩ (.pointer (some ⟨wr.heap.size + 1, 0, none⟩))).alloc (.cells la 113)) (.cells ta 97)
    have e2 : ((wr.setCell ⟨B, k, none⟩ (.pointer (some ⟨wr.heap.size + 1, 0, none⟩))).alloc (.cells la 113)).heap.size = wr.heap.size + 1 := by simp
    rw [e2] at e
    exact e
  have newc : ∀ o, (((wr.setCell ⟨B, k, none⟩ (.pointer (some ⟨wr.heap.size + 1, 0, none⟩))).alloc (.cells la 113)).alloc (.cells ta 97)).cell? ⟨bk B k, o, none⟩ = ta[o]? := fun o => cell_of_row _ _ o ta 97 (0, 0) newb
  have lt : ∀ i, i < k → bk B i < wr.heap.size ∧ bk B i ≠ B := fun i hi => ⟨by unfold bk; omega, bk_B B i⟩
  refine ⟨fun i hi => ?_, fun i o hi ho => ?_, fun i hi => ?_, fun i hi => ?_, ?_, ?_, ?_⟩
  · by_cases e : i = k
    · subst e; exact ⟨ta, newb⟩
    · rw [old _ (lt i (by omega)).1 (lt i (by omega)).2]; exact h.blk i (by omega)
  · by_cases e : i = k
    · subst e; rw [newc]; exact ep o ho
    · rw [oldc _ _ (lt i (by omega)).1 (lt i (by omega)).2]; exact h.ptr i o (by omega) ho
  · by_cases e : i = k
    · subst e; rw [newc]; exact e4
    · rw [oldc _ _ (lt i (by omega)).1 (lt i (by omega)).2]; exact h.wts i (by omega)
  · by_cases e : i = k
    · subst e; exact ⟨t, by rw [newc]; exact e1⟩
    · rw [oldc _ _ (lt i (by omega)).1 (lt i (by omega)).2]; exact h.tss i (by omega)
  · refine World.rowIs.congr (((h.row.set k _).alloc _).alloc _) (fun i hi => ?_)
    by_cases e : i = k
    · subst e; simp [hbk]
    · rw [if_neg e]
      by_cases e2 : i < k
      · rw [if_pos e2, if_pos (by omega)]
      · rw [if_neg e2, if_neg (by omega)]
  · simp; omega
  · exact ((h.bel.setCell (p := ⟨B, k, none⟩) (Nat.le_refl _) _).alloc (by simp; omega) _).alloc (by simp; omega) _

theorem Made.congr {w wr : World} {B n k : Nat} {f f' : Nat → Nat → Option Nat} {wt : Nat → Option Addr} (h : Made w wr B n k f wt) (e : ∀ i o, i < k → IsPtr o → f i o = f' i o) : Made w wr B n k f' wt :=
  ⟨h.blk, fun i o hi ho => by rw [h.ptr i o hi ho, e i o hi ho], h.wts, h.tss, h.row, h.size, h.bel⟩

theorem Made.drew {w wr : World} {B n k : Nat} {f : Nat → Nat → Option Nat} {wt : Nat → Option Addr} (h : Made w wr B n k f wt) : Made w wr.drew B n k f wt :=
  ⟨h.blk, h.ptr, h.wts, h.tss, h.row, h.size, h.bel.drew⟩

/-- A store into a transaction's pointer. -/
theorem Made.setPtr {w wr : World} {B n m : Nat} {f : Nat → Nat → Option Nat} {wt : Nat → Option Addr} (h : Made w wr B n m f wt) {k o : Nat} (hk : k < m) (ho : IsPtr o) (v : Option Nat) : Made w (wr.setCell ⟨bk B k, o, none⟩ (.pointer (ad B v))) B n m (upd f k o v) wt := by
  have oth : ∀ q o', (q ≠ bk B k ∨ o' ≠ o) → (wr.setCell ⟨bk B k, o, none⟩ (.pointer (ad B v))).cell? ⟨q, o', none⟩ = wr.cell? ⟨q, o', none⟩ := by
    intro q o' hne
    exact World.cell?_setCell_other _ _ _ _ (by intro e; injection e with e1 e2 _; omega)
  have ho4 : o ≠ 4 ∧ o ≠ 1 := by unfold IsPtr at ho; omega
  refine ⟨fun i hi => ?_, fun i o' hi ho' => ?_, fun i hi => ?_, fun i hi => ?_, ?_, ?_, ?_⟩
  · obtain ⟨c, hc⟩ := h.blk i hi
    by_cases e : i = k
    · subst e; exact ⟨_, heap_setCell_same wr _ o c 97 _ hc⟩
    · exact ⟨c, by rw [heap_setCell_other _ _ _ _ (bk_ne e)]; exact hc⟩
  · by_cases e : i = k ∧ o' = o
    · obtain ⟨rfl, rfl⟩ := e
      rw [World.cell?_setCell_same _ _ _ (h.ptr i o' hi ho')]
      simp [upd]
    · rw [oth _ _ (by by_cases e1 : i = k; exact Or.inr (fun e2 => e ⟨e1, e2⟩); exact Or.inl (bk_ne e1)), h.ptr i o' hi ho']
      simp only [upd]; rw [if_neg e]
  · rw [oth _ _ (Or.inr (fun e => ho4.1 e.symm))]; exact h.wts i hi
  · rw [oth _ _ (Or.inr (fun e => ho4.2 e.symm))]; exact h.tss i hi
  · exact h.row.setOther (fun e => bk_B B k e.symm) _
  · simpa using h.size
  · exact h.bel.setCell (p := ⟨bk B k, o, none⟩) (by show B ≤ bk B k; unfold bk; omega) _

/-- The list's links behind k rounds of the second loop. -/
def chain (n k : Nat) : Nat → Nat → Option Nat := fun i o => if i < k then (if o = 14 then (if 0 < i then some (i - 1) else none) else if o = 15 then (if i + 1 < n then some (i + 1) else none) else none) else none

theorem chain_succ (n q i o : Nat) : chain n (q + 1) i o = if i = q then (if o = 14 then (if 0 < q then some (q - 1) else none) else if o = 15 then (if q + 1 < n then some (q + 1) else none) else none) else chain n q i o := by
  unfold chain
  by_cases h : i = q
  · subst h; rw [if_pos (by omega), if_pos rfl]
  · rw [if_neg h]
    by_cases h2 : i < q
    · rw [if_pos (by omega), if_pos h2]
    · rw [if_neg (by omega), if_neg h2]
theorem chain_at (n q o : Nat) : chain n q q o = none := by simp [chain]

theorem chain_both (n q : Nat) (h0 : 0 < q) (h1 : q + 1 < n) (i o : Nat) : upd (upd (chain n q) q 14 (some (q - 1))) q 15 (some (q + 1)) i o = chain n (q + 1) i o := by
  rw [chain_succ]; simp only [upd]
  by_cases h : i = q
  · subst h
    by_cases e : o = 15
    · subst e; simp [h1]
    · by_cases e2 : o = 14
      · subst e2; simp [h0]
      · simp [e, e2, chain_at]
  · simp [h]
theorem chain_prev (n q : Nat) (h0 : 0 < q) (h1 : ¬ q + 1 < n) (i o : Nat) : upd (chain n q) q 14 (some (q - 1)) i o = chain n (q + 1) i o := by
  rw [chain_succ]; simp only [upd]
  by_cases h : i = q
  · subst h
    by_cases e : o = 15
    · subst e; simp [h1, chain_at]
    · by_cases e2 : o = 14
      · subst e2; simp [h0]
      · simp [e, e2, chain_at]
  · simp [h]
theorem chain_next (n q : Nat) (h0 : ¬ 0 < q) (h1 : q + 1 < n) (i o : Nat) : upd (chain n q) q 15 (some (q + 1)) i o = chain n (q + 1) i o := by
  rw [chain_succ]; simp only [upd]
  by_cases h : i = q
  · subst h
    by_cases e : o = 15
    · subst e; simp [h1]
    · by_cases e2 : o = 14
      · subst e2; simp [h0, chain_at]
      · simp [e, e2, chain_at]
  · simp [h]
theorem chain_none (n q : Nat) (h0 : ¬ 0 < q) (h1 : ¬ q + 1 < n) (i o : Nat) : chain n q i o = chain n (q + 1) i o := by
  rw [chain_succ]
  by_cases h : i = q
  · subst h; simp [h0, h1, chain_at]
  · simp [h]

/-- The table, laid behind the transactions. -/
theorem Made.table {w wr : World} {B n : Nat} {f : Nat → Nat → Option Nat} {wt : Nat → Option Addr} (h : Made w wr B n n f wt) (tc : Array Value) (g : Nat → Option Nat) (wait : Int)
    (eg : ∀ o, 6 ≤ o → o ≤ 8 → tc[o]? = some (.pointer (ad B (g o)))) (e9 : tc[9]? = some (.int .i64 wait)) :
    Mem (wr.alloc (.cells tc 84)) B n wr.heap.size f wt g wait := by
  have hs := h.size
  have hBlt := h.row.lt
  have lt : ∀ i, i < n → bk B i < wr.heap.size := fun i hi => by unfold bk; omega
  have oldc : ∀ q o, q < wr.heap.size → (wr.alloc (.cells tc 84)).cell? ⟨q, o, none⟩ = wr.cell? ⟨q, o, none⟩ := fun q o hq => World.cell?_alloc_lt _ _ ⟨q, o, none⟩ hq
  have newb : (wr.alloc (.cells tc 84)).heap[wr.heap.size]? = some (.cells tc 84 (0, 0)) := heap_alloc_new wr _
  have newc : ∀ o, (wr.alloc (.cells tc 84)).cell? ⟨wr.heap.size, o, none⟩ = tc[o]? := fun o => cell_of_row _ _ o tc 84 (0, 0) newb
  refine ⟨fun i hi => ?_, fun i o hi ho => ?_, fun i hi => ?_, fun i hi => ?_, ⟨tc, newb⟩, fun o h1 h2 => ?_, ?_, fun i hi => ?_, fun i hi => ?_, ?_⟩
  · rw [Below.heap_alloc _ _ _ (lt i hi)]; exact h.blk i hi
  · rw [oldc _ _ (lt i hi)]; exact h.ptr i o hi ho
  · rw [oldc _ _ (lt i hi)]; exact h.wts i hi
  · rw [oldc _ _ (lt i hi)]; exact h.tss i hi
  · rw [newc]; exact eg o h1 h2
  · rw [newc]; exact e9
  · rw [oldc _ _ hBlt, h.row.cell hi, if_pos hi]
  · have := lt i hi; omega
  · omega

/-- Head and tail behind the set-up. -/
def ends (n : Nat) : Nat → Option Nat := fun o => if o = 6 then some 0 else if o = 7 then some n else none

set_option maxRecDepth 10000 in
set_option maxHeartbeats 400000 in
theorem setup_list (n : Nat) (seed wait : Int) (w : World) (hn : n ≤ 255) :
    Calls Yba.prog 9 #[.int .i64 ((n : Int) + 1), .int .u64 seed, .int .i64 wait, .bool false] w fun e w' => ∃ T, e = .returned (.tuple #[.pointer (some ⟨T, 0, none⟩), .slice (some ⟨w.heap.size, 0, none⟩) (n + 1) (n + 1)]) ∧
      Mem w' w.heap.size (n + 1) T (chain (n + 1) (n + 1)) (fun i => some ⟨w.heap.size + 1 + 2 * i, 0, none⟩) (ends n) wait ∧ Below w.heap.size w w' ∧ w.heap.size ≤ T := by
  have hmk := run_make_row' (P := Yba.prog) 62 66 (.pointer none) 8 Yba.underlying62 Yba.info66 rfl .i64 .i64 (n + 1) (by omega) (by omega)
  rw [show ((n + 1 : Nat) : Int) = (n : Int) + 1 from by omega] at hmk
  go_enter Yba.func9, Yba.ntmps9
  go_wp2
  clear hmk
  go_loopw [11] (fun i wr => ∃ k : Nat, k ≤ n + 1 ∧ i = .int .i64 k ∧ Made w wr w.heap.size (n + 1) k (fun _ _ => none) (fun i => some ⟨w.heap.size + 1 + 2 * i, 0, none⟩)) (fun i _ => n + 1 - (intOf i).toNat)
  case atStart =>
    refine ⟨0, Nat.zero_le _, rfl, fun i hi => by omega, fun i o hi => by omega, fun i hi => by omega, fun i hi => by omega, ?_, by simp, (Below.refl _ _).alloc (Nat.le_refl _) _⟩
    simpa using World.rowIs_made w (.pointer none) (n + 1) 66
  case round =>
    obtain ⟨k, hk, rfl, hm⟩ := hrel
    have HM : Hid (Made w wr w.heap.size (n + 1) k (fun _ _ => none) (fun i => some ⟨w.heap.size + 1 + 2 * i, 0, none⟩)) := hm
    have hlk := hm.row.lt
    by_cases hlt : k < n + 1
    · have hc := hm.row.cell hlt
      have hf := hm.row.frozen k
      clear hm
      simp only [Nat.lt_irrefl, if_false] at hc
      have hltI : (k : Int) < (n : Int) + 1 := by omega
      go_wp2
      go_roundw
      case rel =>
        refine ⟨k + 1, by omega, by go_num, ?_⟩
        refine HM.out.step hlt _ _ _ rfl ?_ ?_
        · have := HM.out.size; simp [this]
        · intro o ho
          rcases ho with rfl | rfl | rfl | rfl | rfl <;> rfl
      case measure => simp [intOf]; omega
    · have hkn : k = n + 1 := by omega
      subst hkn
      clear hm hlk
      have hlI : ¬ ((n + 1 : Nat) : Int) < (n : Int) + 1 := by omega
      go_wp2
      go_loopw [12] (fun i wr => ∃ q : Nat, q ≤ n + 1 ∧ i = .int .i64 q ∧ Made w wr w.heap.size (n + 1) (n + 1) (chain (n + 1) q) (fun i => some ⟨w.heap.size + 1 + 2 * i, 0, none⟩)) (fun i _ => n + 1 - (intOf i).toNat)
      case atStart => exact ⟨0, Nat.zero_le _, rfl, HM.out.congr (fun i o _ _ => by simp [chain])⟩
      case round =>
        clear HM
        obtain ⟨q, hq, rfl, hm⟩ := hrel
        have HM : Hid (Made w wr w.heap.size (n + 1) (n + 1) (chain (n + 1) q) (fun i => some ⟨w.heap.size + 1 + 2 * i, 0, none⟩)) := hm
        by_cases hlt : q < n + 1
        · have cq := hm.row.cell hlt
          have p14 := hm.ptr q 14 hlt (by unfold IsPtr; omega)
          have p15 := hm.ptr q 15 hlt (by unfold IsPtr; omega)
          have f14 := frozen_of_row wr (bk w.heap.size q) 14 _ 97 (hm.blk q hlt).choose_spec
          have f15 := frozen_of_row wr (bk w.heap.size q) 15 _ 97 (hm.blk q hlt).choose_spec
          rw [if_pos hlt] at cq
          have hBq : ¬ w.heap.size = bk w.heap.size q := fun e => bk_B _ _ e.symm
          have hBq' : ¬ bk w.heap.size q = w.heap.size := fun e => bk_B _ _ e
          have hltI : (q : Int) < (n : Int) + 1 := by omega
          cases q with
          | zero =>
            by_cases hl : 0 < n
            · have c1 := hm.row.cell (show 1 < n + 1 by omega)
              rw [if_pos (show 1 < n + 1 by omega)] at c1
              clear hm
              have h1I : (1 : Int) < (n : Int) + 1 := by omega
              go_wp2
              go_region
              go_wp2
              go_roundw
              case rel => exact ⟨1, by omega, rfl, ((HM.out.setPtr (k := 0) (o := 15) (by omega) (by unfold IsPtr; omega) (some 1)).drew).congr (fun i o _ _ => chain_next (n + 1) 0 (by omega) (by omega) i o)⟩
              case measure => first | (simp [intOf]; done) | (simp [intOf]; omega)
            · clear hm
              have h1I : ¬ (1 : Int) < (n : Int) + 1 := by omega
              go_wp2
              go_roundw
              case rel => exact ⟨1, by omega, rfl, HM.out.congr (fun i o _ _ => chain_none (n + 1) 0 (by omega) (by omega) i o)⟩
              case measure => first | (simp [intOf]; done) | (simp [intOf]; omega)
          | succ q =>
            have cp := hm.row.cell (show q < n + 1 by omega)
            rw [if_pos (show q < n + 1 by omega)] at cp
            have h0I : (0 : Int) < (q : Int) + 1 := by omega
            have hqI : (q : Int) < (n : Int) + 1 := by omega
            by_cases hl : q + 1 < n
            · have c1 := hm.row.cell (show q + 2 < n + 1 by omega)
              rw [if_pos (show q + 2 < n + 1 by omega)] at c1
              clear hm
              have h1I : (q : Int) + 1 + 1 < (n : Int) + 1 := by omega
              go_wp2
              go_region
              go_wp2
              go_region
              go_wp2
              go_roundw
              case rel => exact ⟨q + 2, by omega, by go_num, (((HM.out.setPtr (k := q + 1) (o := 14) (by omega) (by unfold IsPtr; omega) (some q)).setPtr (k := q + 1) (o := 15) (by omega) (by unfold IsPtr; omega) (some (q + 2))).drew.drew).congr (fun i o _ _ => chain_both (n + 1) (q + 1) (by omega) (by omega) i o)⟩
              case measure => first | (simp [intOf]; done) | (simp [intOf]; omega)
            · clear hm
              have h1I : ¬ (q : Int) + 1 + 1 < (n : Int) + 1 := by omega
              go_wp2
              go_region
              go_wp2
              go_roundw
              case rel => exact ⟨q + 2, by omega, by go_num, ((HM.out.setPtr (k := q + 1) (o := 14) (by omega) (by unfold IsPtr; omega) (some q)).drew).congr (fun i o _ _ => chain_prev (n + 1) (q + 1) (by omega) (by omega) i o)⟩
              case measure => first | (simp [intOf]; done) | (simp [intOf]; omega)
        · have hqn : q = n + 1 := by omega
          subst hqn
          have c0 := hm.row.cell (show 0 < n + 1 by omega)
          rw [if_pos (show 0 < n + 1 by omega)] at c0
          have cn := hm.row.cell (show n < n + 1 by omega)
          rw [if_pos (show n < n + 1 by omega)] at cn
          have hBw := hm.row.lt
          clear hm
          have hlI : ¬ ((n + 1 : Nat) : Int) < (n : Int) + 1 := by omega
          have h0I : (0 : Int) < (n : Int) + 1 := by omega
          go_wp2
          go_ret2
          refine ⟨wr.heap.size, rfl, ?_, HM.out.bel.alloc (by omega) _, by omega⟩
          refine HM.out.table _ _ _ (fun o h1 h2 => ?_) rfl
          obtain rfl | rfl | rfl : o = 6 ∨ o = 7 ∨ o = 8 := by omega
          all_goals rfl
end Go.Proofs.YbulkanmgRR
