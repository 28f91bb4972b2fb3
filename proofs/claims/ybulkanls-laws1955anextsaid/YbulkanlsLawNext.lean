import Derived.Test.YbulkanlsNextFn
namespace Go.Proofs.Ybulkanls
set_option linter.unusedVariables false
open Go.RowKit

/-- Behind 'next' at a token that is EOF: what the law reads. -/
theorem after_eof {w1 w2 : World} {cs : Array Value} {t : TypeId} (hb : Below (w1.alloc (.cells cs t)).heap.size (w1.alloc (.cells cs t)) w2) :
    (∀ j v, cs[j]? = some v → w2.cell? ⟨w1.heap.size, j, none⟩ = some v) ∧ (∀ q o, q < w1.heap.size → w2.cell? ⟨q, o, none⟩ = w1.cell? ⟨q, o, none⟩) ∧ w1.heap.size < w2.heap.size := by
  refine ⟨fun j v hj => ?_, fun q o hq => ?_, ?_⟩
  · rw [hb.cell (by simp), World.cell?_alloc_new]; exact hj
  · rw [hb.cell (by simp; omega), World.cell?_alloc_lt]; exact hq
  · have := hb.size; simp at this; omega

theorem after_on {w1 w2 : World} {cs : Array Value} {t : TypeId} {u : Value} (hb : Below (w1.alloc (.cells cs t)).heap.size ((w1.alloc (.cells cs t)).setCell ⟨w1.heap.size, 2, none⟩ u) w2) :
    (∀ j v, j ≠ 2 → cs[j]? = some v → w2.cell? ⟨w1.heap.size, j, none⟩ = some v) ∧ (2 < cs.size → w2.cell? ⟨w1.heap.size, 2, none⟩ = some u) ∧ (∀ q o, q < w1.heap.size → w2.cell? ⟨q, o, none⟩ = w1.cell? ⟨q, o, none⟩) ∧ w1.heap.size < w2.heap.size := by
  refine ⟨fun j v hj hv => ?_, fun h2 => ?_, fun q o hq => ?_, ?_⟩
  · have hne : (⟨w1.heap.size, 2, none⟩ : Addr) ≠ ⟨w1.heap.size, j, none⟩ := by intro h; injection h with _ h2 _; omega
    rw [hb.cell (by simp), World.cell?_setCell_other (h := hne), World.cell?_alloc_new]; exact hv
  · rw [hb.cell (by simp)]
    have e : (w1.alloc (.cells cs t)).cell? ⟨w1.heap.size, 2, none⟩ = some cs[2] := by rw [World.cell?_alloc_new]; simp [h2]
    exact World.cell?_setCell_same _ _ _ e
  · have hne : (⟨w1.heap.size, 2, none⟩ : Addr) ≠ ⟨q, o, none⟩ := by intro h; injection h with h1 _ _; omega
    rw [hb.cell (by simp; omega), World.cell?_setCell_other (h := hne), World.cell?_alloc_lt]; exact hq
  · have := hb.size; simp at this; omega

set_option maxHeartbeats 400000 in
theorem lawNext_on (ao : Option Addr) (b off len cap : Nat) (zs : List Tok) (pos : Int) (w : World) (ha : 0 < len → ao = some ⟨b, off, none⟩) (ht : IsToks w b off len zs) (hlen : len ≤ 1024) (hp0 : 0 ≤ pos) (hp1 : pos ≤ 18446744073709551615)
   (i : Nat) (hi : wrap64 (pos % ((len : Int) + 1)) = (i : Int)) (hil : i < len) (hk : (tokAt zs i).1 % 7 ≠ 0) :
    Calls Yba.prog 3 #[.slice ao len cap, .int .u64 pos] w fun e w' => e = .returned (.bool true) ∧ Below w.heap.size w w' := by
  have hl' : (len : Int) ≤ 1024 := by omega
  have hbB : b < w.heap.size := World.block_lt_of_cell? w _ (ht.c0 i hil)
  obtain ⟨kl, ku⟩ := ht.k i hil
  obtain rfl := ha (by omega)
  clear ha
  go_enter Yba.func3, Yba.ntmps3
  go_wp2_with (go_at_call 5; refine (build_any _ b off len cap zs _ (fun _ => rfl) ht hlen).mono ?_; rintro e w1 ⟨rfl, hrow, hbel⟩)
  obtain ⟨r0, r1, r2⟩ := row_at hrow ht.size i (by omega)
  have hsz := hbel.size
  have hgB : w.heap.size < w1.heap.size := World.block_lt_of_cell? w1 _ r0
  refine (next_on w1.heap.size w.heap.size i (len + 1) (len + 1) ((tokAt zs i).1 % 7) (tokAt zs i).2.1 (tokAt zs i).2.2 _ (by simp [go_sem]) (by simp [go_sem]) (by omega) (by omega) hk ?_ ?_ ?_ ?_).mono ?_
  · rw [World.cell?_alloc_lt (h := hgB)]; exact r0
  · rw [World.cell?_alloc_lt (h := hgB)]; exact r1
  · rw [World.cell?_alloc_lt (h := hgB)]; exact r2
  · simp [go_sem]
  rintro e w2 ⟨rfl, hb2⟩
  obtain ⟨q1, q2, q3, q4⟩ := after_on hb2
  have HB : Below w.heap.size w w2 := ((hbel.alloc hsz _).setCell (p := ⟨w1.heap.size, 2, none⟩) hsz _).trans (hb2.mono (by simp; omega))
  have p0 := q1 0 _ (by decide) rfl
  have p1 := q1 1 _ (by decide) rfl
  have p2 := q2 (by simp)
  have p4 := q1 4 _ (by decide) rfl
  have p5 := q1 5 _ (by decide) rfl
  have p10 := q1 10 _ (by decide) rfl
  have s0 := (q3 w.heap.size (i * 3) hgB).trans r0
  have s1 := (q3 w.heap.size (i * 3 + 1) hgB).trans r1
  have s2 := (q3 w.heap.size (i * 3 + 2) hgB).trans r2
  have t0 := (q3 b (off + i * 3) (by omega)).trans ((hbel.cell hbB).trans (ht.c0 i hil))
  have t1 := (q3 b (off + i * 3 + 1) (by omega)).trans ((hbel.cell hbB).trans (ht.c1 i hil))
  have t2 := (q3 b (off + i * 3 + 2) (by omega)).trans ((hbel.cell hbB).trans (ht.c2 i hil))
  clear q1 q2 q3 r0 r1 r2
  have hidx : (i : Int) < (len : Int) + 1 := by omega
  have hidx' : (i : Int) < (len : Int) := by omega
  have hgw : w.heap.size < w2.heap.size := by omega
  have hbw : b < w2.heap.size := by omega
  have hne0 : ((tokAt zs i).1 % 7 == 0) = false := by simpa using hk
  go_wp2_with fail
  go_quiet (fail)
  go_wp2_with fail
  go_quiet (fail)
  go_wp2
  go_ret
  exact ⟨rfl, below_drewN (HB.alloc (by omega) _) _⟩

set_option maxHeartbeats 400000 in
theorem lawNext_eof (ao : Option Addr) (b off len cap : Nat) (zs : List Tok) (pos : Int) (w : World) (ha : 0 < len → ao = some ⟨b, off, none⟩) (ht : IsToks w b off len zs) (hlen : len ≤ 1024) (hp0 : 0 ≤ pos) (hp1 : pos ≤ 18446744073709551615)
   (i : Nat) (hi : wrap64 (pos % ((len : Int) + 1)) = (i : Int)) (hil : i < len) (hk : (tokAt zs i).1 % 7 = 0) :
    Calls Yba.prog 3 #[.slice ao len cap, .int .u64 pos] w fun e w' => e = .returned (.bool true) ∧ Below w.heap.size w w' := by
  have hl' : (len : Int) ≤ 1024 := by omega
  have hbB : b < w.heap.size := World.block_lt_of_cell? w _ (ht.c0 i hil)
  obtain ⟨kl, ku⟩ := ht.k i hil
  obtain rfl := ha (by omega)
  clear ha
  go_enter Yba.func3, Yba.ntmps3
  go_wp2_with (go_at_call 5; refine (build_any _ b off len cap zs _ (fun _ => rfl) ht hlen).mono ?_; rintro e w1 ⟨rfl, hrow, hbel⟩)
  obtain ⟨r0, r1, r2⟩ := row_at hrow ht.size i (by omega)
  have hsz := hbel.size
  have hgB : w.heap.size < w1.heap.size := World.block_lt_of_cell? w1 _ r0
  rw [hk] at r0
  refine (next_eof w1.heap.size w.heap.size i (len + 1) (len + 1) (tokAt zs i).2.1 (tokAt zs i).2.2 _ (by simp [go_sem]) (by simp [go_sem]) (by omega) (by omega) ?_ ?_ ?_).mono ?_
  · rw [World.cell?_alloc_lt (h := hgB)]; exact r0
  · rw [World.cell?_alloc_lt (h := hgB)]; exact r1
  · rw [World.cell?_alloc_lt (h := hgB)]; exact r2
  rintro e w2 ⟨rfl, hb2⟩
  obtain ⟨q1, q3, q4⟩ := after_eof hb2
  have HB : Below w.heap.size w w2 := (hbel.alloc hsz _).trans (hb2.mono (by simp; omega))
  have p0 := q1 0 _ rfl
  have p1 := q1 1 _ rfl
  have p2 := q1 2 _ rfl
  have p4 := q1 4 _ rfl
  have p5 := q1 5 _ rfl
  have p10 := q1 10 _ rfl
  have s0 := (q3 w.heap.size (i * 3) hgB).trans r0
  have s1 := (q3 w.heap.size (i * 3 + 1) hgB).trans r1
  have s2 := (q3 w.heap.size (i * 3 + 2) hgB).trans r2
  have t0 := (q3 b (off + i * 3) (by omega)).trans ((hbel.cell hbB).trans (ht.c0 i hil))
  have t1 := (q3 b (off + i * 3 + 1) (by omega)).trans ((hbel.cell hbB).trans (ht.c1 i hil))
  have t2 := (q3 b (off + i * 3 + 2) (by omega)).trans ((hbel.cell hbB).trans (ht.c2 i hil))
  clear q1 q3 r0 r1 r2
  have hidx : (i : Int) < (len : Int) + 1 := by omega
  have hidx' : (i : Int) < (len : Int) := by omega
  have hgw : w.heap.size < w2.heap.size := by omega
  have hbw : b < w2.heap.size := by omega
  go_wp2_with fail
  go_quiet (fail)
  go_wp2_with fail
  go_quiet (fail)
  go_wp2
  go_ret
  exact ⟨rfl, below_drewN (HB.alloc (by omega) _) _⟩

set_option maxHeartbeats 400000 in
theorem lawNext_end (ao : Option Addr) (b off len cap : Nat) (zs : List Tok) (pos : Int) (w : World) (ha : 0 < len → ao = some ⟨b, off, none⟩) (ht : IsToks w b off len zs) (hlen : len ≤ 1024) (hp0 : 0 ≤ pos) (hp1 : pos ≤ 18446744073709551615)
   (hi : wrap64 (pos % ((len : Int) + 1)) = (len : Int)) :
    Calls Yba.prog 3 #[.slice ao len cap, .int .u64 pos] w fun e w' => e = .returned (.bool true) ∧ Below w.heap.size w w' := by
  have hl' : (len : Int) ≤ 1024 := by omega
  have htk : tokAt zs len = (0, ByteArray.empty, 0) := by have := ht.size; simp [tokAt, this]
  go_enter Yba.func3, Yba.ntmps3
  go_wp2_with (go_at_call 5; refine (build_any _ b off len cap zs _ ha ht hlen).mono ?_; rintro e w1 ⟨rfl, hrow, hbel⟩)
  obtain ⟨r0, r1, r2⟩ := row_at hrow ht.size len (by omega)
  rw [htk] at r0 r1 r2
  clear htk
  have hsz := hbel.size
  have hgB : w.heap.size < w1.heap.size := World.block_lt_of_cell? w1 _ r0
  refine (next_eof w1.heap.size w.heap.size len (len + 1) (len + 1) ByteArray.empty 0 _ (by simp [go_sem]) (by simp [go_sem]) (by omega) (by omega) ?_ ?_ ?_).mono ?_
  · rw [World.cell?_alloc_lt (h := hgB)]; exact r0
  · rw [World.cell?_alloc_lt (h := hgB)]; exact r1
  · rw [World.cell?_alloc_lt (h := hgB)]; exact r2
  rintro e w2 ⟨rfl, hb2⟩
  obtain ⟨q1, q3, q4⟩ := after_eof hb2
  have HB : Below w.heap.size w w2 := (hbel.alloc hsz _).trans (hb2.mono (by simp; omega))
  have p0 := q1 0 _ rfl
  have p1 := q1 1 _ rfl
  have p2 := q1 2 _ rfl
  have p4 := q1 4 _ rfl
  have p5 := q1 5 _ rfl
  have p10 := q1 10 _ rfl
  have s0 := (q3 w.heap.size (len * 3) hgB).trans r0
  have s1 := (q3 w.heap.size (len * 3 + 1) hgB).trans r1
  have s2 := (q3 w.heap.size (len * 3 + 2) hgB).trans r2
  clear q1 q3 r0 r1 r2
  have hidx : (len : Int) < (len : Int) + 1 := by omega
  have hgw : w.heap.size < w2.heap.size := by omega
  go_wp2_with fail
  go_quiet (fail)
  go_wp2
  go_ret
  exact ⟨rfl, below_drewN (HB.alloc (by omega) _) _⟩
end Go.Proofs.Ybulkanls
