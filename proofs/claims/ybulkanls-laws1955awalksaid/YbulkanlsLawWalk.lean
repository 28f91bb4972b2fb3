import Derived.Test.YbulkanlsNextFn
namespace Go.Proofs.Ybulkanls
set_option linter.unusedVariables false
open Go.RowKit

/-- The first token whose kind is EOF; the number of tokens where none is. -/
def eofAt (zs : List Tok) : Nat := zs.findIdx (fun t => t.1 % 7 == 0)

theorem eofAt_le (zs : List Tok) : eofAt zs ≤ zs.length := List.findIdx_le_length

theorem eofAt_lt (zs : List Tok) (i : Nat) (h : i < eofAt zs) : (tokAt zs i).1 % 7 ≠ 0 := by
  have hl : i < zs.length := Nat.lt_of_lt_of_le h (eofAt_le zs)
  have := List.not_of_lt_findIdx h
  simpa [tokAt, List.getD, List.getElem?_eq_getElem hl] using this

theorem eofAt_at (zs : List Tok) : (tokAt zs (eofAt zs)).1 % 7 = 0 := by
  by_cases h : eofAt zs < zs.length
  · have := List.findIdx_getElem (w := h)
    have e : tokAt zs (eofAt zs) = zs[eofAt zs] := by simp [tokAt, List.getD, List.getElem?_eq_getElem h]
    rw [e]
    exact beq_iff_eq.1 this
  · simp [tokAt, List.getD, List.getElem?_eq_none (Nat.le_of_not_lt h)]

/-- What stands between two rounds of the second loop: the parser's block pb, the tokens' row. -/
structure Mid (w w1 wr : World) (pb g len pos : Nat) (zs : List Tok) : Prop where
  toks : wr.cell? ⟨pb, 1, none⟩ = some (.slice (some ⟨g, 0, none⟩) (len + 1) (len + 1))
  at_ : wr.cell? ⟨pb, 2, none⟩ = some (.int .i64 (pos : Int))
  free : wr.frozen? ⟨pb, 2, none⟩ = false
  row : ∀ i, i ≤ len → wr.cell? ⟨g, i * 3, none⟩ = some (.int .i64 ((tokAt zs i).1 % 7)) ∧ wr.cell? ⟨g, i * 3 + 1, none⟩ = some (.string (tokAt zs i).2.1) ∧ wr.cell? ⟨g, i * 3 + 2, none⟩ = some (.int .i64 (tokAt zs i).2.2)
  bel : Below w.heap.size w wr
  size : w.heap.size < wr.heap.size
  pbw : w.heap.size ≤ pb
  gpb : g < pb
  pbs : pb < wr.heap.size

theorem Mid.on {w w1 wr w2 : World} {pb g len pos : Nat} {zs : List Tok} {u : Nat} (h : Mid w w1 wr pb g len pos zs) (hb : Below wr.heap.size (wr.setCell ⟨pb, 2, none⟩ (.int .i64 (u : Int))) w2) (o : Obj) (n : Nat) :
    Mid w w1 ((w2.alloc o).drewN n) pb g len u zs := by
  have hs2 : wr.heap.size ≤ w2.heap.size := by have := hb.size; simpa using this
  have hpb := h.pbs
  have hg := h.gpb
  have cel : ∀ q o', q < wr.heap.size → ((w2.alloc o).drewN n).cell? ⟨q, o', none⟩ = (wr.setCell ⟨pb, 2, none⟩ (.int .i64 (u : Int))).cell? ⟨q, o', none⟩ := by
    intro q o' hq
    show (w2.alloc o).cell? ⟨q, o', none⟩ = _
    rw [World.cell?_alloc_lt (h := Nat.lt_of_lt_of_le hq hs2)]
    exact hb.cell hq
  have oth : ∀ q o', q < wr.heap.size → (q ≠ pb ∨ o' ≠ 2) → ((w2.alloc o).drewN n).cell? ⟨q, o', none⟩ = wr.cell? ⟨q, o', none⟩ := by
    intro q o' hq hne
    rw [cel q o' hq]
    have hne' : (⟨pb, 2, none⟩ : Addr) ≠ ⟨q, o', none⟩ := by intro h; injection h with h1 h2 _; omega
    exact World.cell?_setCell_other _ _ _ _ hne'
  refine ⟨?_, ?_, ?_, ?_, ?_, ?_, h.pbw, h.gpb, ?_⟩
  · rw [oth pb 1 hpb (by omega)]; exact h.toks
  · rw [cel pb 2 hpb]; exact World.cell?_setCell_same _ _ _ h.at_
  · show (w2.alloc o).frozen? ⟨pb, 2, none⟩ = false
    rw [World.frozen?_alloc_old _ _ _ (show pb ≠ w2.heap.size by omega)]
    have e : w2.frozen? ⟨pb, 2, none⟩ = (wr.setCell ⟨pb, 2, none⟩ (.int .i64 (u : Int))).frozen? ⟨pb, 2, none⟩ := hb.frozen hpb
    rw [e, World.frozen?_setCell]; exact h.free
  · intro i hi
    have := h.row i hi
    rw [oth g _ (by omega) (by omega), oth g _ (by omega) (by omega), oth g _ (by omega) (by omega)]
    exact this
  · exact below_drewN (((h.bel.setCell (p := ⟨pb, 2, none⟩) h.pbw _).trans (hb.mono (Nat.le_of_lt h.size))).alloc (by have := h.size; omega) _) _
  · show w.heap.size < (w2.alloc o).heap.size
    have := h.size; simp; omega
  · show pb < (w2.alloc o).heap.size
    simp; omega

theorem Mid.stay {w w1 wr w2 : World} {pb g len pos : Nat} {zs : List Tok} (h : Mid w w1 wr pb g len pos zs) (hb : Below wr.heap.size wr w2) (o : Obj) (n : Nat) :
    Mid w w1 ((w2.alloc o).drewN n) pb g len pos zs := by
  have hs2 : wr.heap.size ≤ w2.heap.size := hb.size
  have hpb := h.pbs
  have hg := h.gpb
  have oth : ∀ q o', q < wr.heap.size → ((w2.alloc o).drewN n).cell? ⟨q, o', none⟩ = wr.cell? ⟨q, o', none⟩ := by
    intro q o' hq
    show (w2.alloc o).cell? ⟨q, o', none⟩ = _
    rw [World.cell?_alloc_lt (h := Nat.lt_of_lt_of_le hq hs2)]
    exact hb.cell hq
  refine ⟨?_, ?_, ?_, ?_, ?_, ?_, h.pbw, h.gpb, ?_⟩
  · rw [oth pb 1 hpb]; exact h.toks
  · rw [oth pb 2 hpb]; exact h.at_
  · show (w2.alloc o).frozen? ⟨pb, 2, none⟩ = false
    rw [World.frozen?_alloc_old _ _ _ (show pb ≠ w2.heap.size by omega)]
    exact (hb.frozen hpb).trans h.free
  · intro i hi
    have := h.row i hi
    rw [oth g _ (by omega), oth g _ (by omega), oth g _ (by omega)]
    exact this
  · exact below_drewN ((h.bel.trans (hb.mono (Nat.le_of_lt h.size))).alloc (by have := h.size; omega) _) _
  · show w.heap.size < (w2.alloc o).heap.size
    have := h.size; simp; omega
  · show pb < (w2.alloc o).heap.size
    simp; omega

set_option maxHeartbeats 400000 in
theorem lawWalk_in (ao : Option Addr) (b off len cap : Nat) (zs : List Tok) (w : World) (ha : 0 < len → ao = some ⟨b, off, none⟩) (ht : IsToks w b off len zs) (hlen : len ≤ 1024) :
    Calls Yba.prog 4 #[.slice ao len cap] w fun e w' => e = .returned (.bool true) ∧ Below w.heap.size w w' := by
  have hl' : (len : Int) ≤ 1024 := by omega
  obtain ⟨e, he⟩ : ∃ e, e = eofAt zs := ⟨_, rfl⟩
  have hel : e ≤ len := by have := eofAt_le zs; have := ht.size; omega
  have hlt : ∀ i, i < e → (tokAt zs i).1 % 7 ≠ 0 := fun i hi => eofAt_lt zs i (by omega)
  have hat : (tokAt zs e).1 % 7 = 0 := by rw [he]; exact eofAt_at zs
  have HLT : Hid (∀ i, i < e → (tokAt zs i).1 % 7 ≠ 0) := hlt
  have HAT : Hid ((tokAt zs e).1 % 7 = 0) := hat
  clear he hlt hat
  go_enter Yba.func4, Yba.ntmps4
  go_wp2_with (go_at_call 5; refine (build_any _ b off len cap zs _ ha ht hlen).mono ?_; rintro e' w1 ⟨rfl, hrow, hbel⟩)
  have HR := row_at hrow ht.size
  have hsz := hbel.size
  have hgB : w.heap.size < w1.heap.size := World.block_lt_of_cell? w1 _ (HR 0 (by omega)).1
  have HROW : Hid (∀ i, i ≤ len → w1.cell? ⟨w.heap.size, i * 3, none⟩ = some (.int .i64 ((tokAt zs i).1 % 7)) ∧ w1.cell? ⟨w.heap.size, i * 3 + 1, none⟩ = some (.string (tokAt zs i).2.1) ∧ w1.cell? ⟨w.heap.size, i * 3 + 2, none⟩ = some (.int .i64 (tokAt zs i).2.2)) := HR
  clear HR hrow
  go_loop [4] (fun i => ∃ k : Nat, k ≤ e ∧ i = .int .i64 k) (fun i => e - (intOf i).toNat)
  case atStart => exact ⟨0, Nat.zero_le _, rfl⟩
  case round =>
    obtain ⟨k, hk, rfl⟩ := hrel
    have hkl : (k : Int) < (len : Int) + 1 := by omega
    have c0 := (HROW.out k (by omega)).1
    by_cases hke : k < e
    · have hne : ((tokAt zs k).1 % 7 != 0) = true := by simpa using HLT.out k hke
      go_wp2
      go_round
      case rel => exact ⟨k + 1, by omega, by go_num⟩
      case measure => simp [intOf]; omega
    · have hkk : k = e := by omega
      subst hkk
      rw [HAT.out] at c0
      go_wp2_with fail
      go_loopw [6] (fun i wr => ∃ q : Nat, q ≤ len + 3 ∧ i = .int .i64 q ∧ Mid w w1 wr w1.heap.size w.heap.size len (min q k) zs) (fun i _ => len + 3 - (intOf i).toNat)
      case atStart =>
        refine ⟨0, by omega, rfl, ?_⟩
        refine ⟨by simp [go_sem], by simp [go_sem], by simp [go_sem], fun i hi => ?_, hbel.alloc hsz _, by simp; omega, hsz, hgB, by simp⟩
        rw [World.cell?_alloc_lt (h := hgB), World.cell?_alloc_lt (h := hgB), World.cell?_alloc_lt (h := hgB)]
        exact HROW.out i hi
      case round =>
        obtain ⟨q, hq, rfl, hm⟩ := hrel
        have HM : Hid (Mid w w1 wr w1.heap.size w.heap.size len (min q k) zs) := hm
        clear hm c0 hkl
        by_cases hqe : q ≤ len + 2
        · have hq1 : (q : Int) ≤ (len : Int) + 1 + 1 := by omega
          by_cases hqk : q < k
          · have hm := HM.out
            obtain ⟨r0, r1, r2⟩ := hm.row q (by omega)
            have hmin : min q k = q := by omega
            have hmin1 : min (q + 1) k = q + 1 := by omega
            rw [hmin] at hm
            have m1 := hm.toks
            have m2 := hm.at_
            have m3 := hm.free
            have m4 := hm.pbs
            have m5 := hm.size
            have hnk := HLT.out q hqk
            have HM0 : Hid (min (q + 1) k = q + 1) := hmin1
            clear hmin hmin1 hm
            go_wp2_with fail
            refine (next_on w1.heap.size w.heap.size q (len + 1) (len + 1) _ _ _ _ m1 m2 (by omega) (by omega) hnk r0 r1 r2 m3).mono ?_
            rintro e2 w2 ⟨rfl, hb2⟩
            have hs2 : wr.heap.size ≤ w2.heap.size := by have := hb2.size; simpa using this
            have hgw : w.heap.size < w2.heap.size := by omega
            have cel : ∀ o', w2.cell? ⟨w.heap.size, o', none⟩ = wr.cell? ⟨w.heap.size, o', none⟩ := fun o' => by
              rw [hb2.cell (p := ⟨w.heap.size, o', none⟩) m5]
              exact World.cell?_setCell_other _ _ _ _ (by intro h; injection h with h1 _ _; omega)
            have s0 := (cel _).trans r0
            have s1 := (cel _).trans r1
            have s2 := (cel _).trans r2
            have hidx : (q : Int) < (len : Int) + 1 := by omega
            clear cel m1 m2 m3
            go_wp2_with fail
            go_quiet (fail)
            go_wp2
            go_roundw
            case rel =>
              refine ⟨q + 1, by omega, by go_num, ?_⟩
              rw [HM0.out]
              have hm := HM.out
              exact Mid.on hm (u := q + 1) (by simpa using hb2) _ _
            case measure => simp [intOf]; omega
          · have hm := HM.out
            obtain ⟨r0, r1, r2⟩ := hm.row k (by omega)
            rw [HAT.out] at r0
            have hmin : min q k = k := by omega
            have hmin1 : min (q + 1) k = k := by omega
            rw [hmin] at hm
            have m1 := hm.toks
            have m2 := hm.at_
            have m3 := hm.free
            have m4 := hm.pbs
            have m5 := hm.size
            have HM0 : Hid (min (q + 1) k = k) := hmin1
            have HM1 : Hid (Mid w w1 wr w1.heap.size w.heap.size len k zs) := hm
            clear hmin hmin1 hm
            have hidx : (k : Int) < (len : Int) + 1 := by omega
            by_cases hqk2 : q = k
            · subst hqk2
              go_wp2_with fail
              refine (next_eof w1.heap.size w.heap.size q (len + 1) (len + 1) _ _ _ m1 m2 (by omega) (by omega) r0 r1 r2).mono ?_
              rintro e2 w2 ⟨rfl, hb2⟩
              have hs2 : wr.heap.size ≤ w2.heap.size := hb2.size
              have hgw : w.heap.size < w2.heap.size := by omega
              have s0 := (hb2.cell (p := ⟨w.heap.size, _, none⟩) m5).trans r0
              have s1 := (hb2.cell (p := ⟨w.heap.size, _, none⟩) m5).trans r1
              have s2 := (hb2.cell (p := ⟨w.heap.size, _, none⟩) m5).trans r2
              clear m1 m2 m3
              go_wp2_with fail
              go_quiet (fail)
              go_wp2
              go_roundw
              case rel =>
                refine ⟨q + 1, by omega, by go_num, ?_⟩
                rw [HM0.out]
                exact Mid.stay HM1.out hb2 _ _
              case measure => simp [intOf]; omega
            · have hkq : (k : Int) < (q : Int) := by omega
              go_wp2_with fail
              refine (next_eof w1.heap.size w.heap.size k (len + 1) (len + 1) _ _ _ m1 m2 (by omega) (by omega) r0 r1 r2).mono ?_
              rintro e2 w2 ⟨rfl, hb2⟩
              have hs2 : wr.heap.size ≤ w2.heap.size := hb2.size
              have hgw : w.heap.size < w2.heap.size := by omega
              have s0 := (hb2.cell (p := ⟨w.heap.size, _, none⟩) m5).trans r0
              have s1 := (hb2.cell (p := ⟨w.heap.size, _, none⟩) m5).trans r1
              have s2 := (hb2.cell (p := ⟨w.heap.size, _, none⟩) m5).trans r2
              clear m1 m2 m3
              go_wp2_with fail
              go_quiet (fail)
              go_wp2
              go_roundw
              case rel =>
                refine ⟨q + 1, by omega, by go_num, ?_⟩
                rw [HM0.out]
                exact Mid.stay HM1.out hb2 _ _
              case measure => simp [intOf]; omega
        · have hq1 : ¬ (q : Int) ≤ (len : Int) + 1 + 1 := by omega
          have hmin : min q k = k := by omega
          have hm := HM.out
          rw [hmin] at hm
          have m2 := hm.at_
          have HB := hm.bel
          clear hmin hm
          go_wp2
          go_ret
          exact ⟨rfl, HB⟩
end Go.Proofs.Ybulkanls
