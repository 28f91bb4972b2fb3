import Derived.Test.YbulkanmgRRRemove
namespace Go.Proofs.YbulkanmgRR
set_option linter.unusedVariables false
set_option linter.unusedSimpArgs false
open Go.RowKit

/-- The i-th transaction's block: behind the row B of pointers each round lays a lock and a transaction. -/
def bk (B i : Nat) : Nat := B + 2 + 2 * i
/-- A pointer to the i-th transaction, or nil. -/
def ad (B : Nat) (x : Option Nat) : Option Addr := hd (x.map (bk B))

/-- The offsets of a transaction's pointers to others: the waits' prev, next; the waits' node: up, left, right. -/
def IsPtr (o : Nat) : Prop := o = 14 ∨ o = 15 ∨ o = 22 ∨ o = 23 ∨ o = 24

/-- The state of the n transactions and of the table, in memory: 'f i o': the pointer at offset o of transaction i; 'wt i': what it wants; 'g o': the table's head (6), tail (7), root (8); 'wait': the table's count. -/
structure Mem (w : World) (B n T : Nat) (f : Nat → Nat → Option Nat) (wt : Nat → Option Addr) (g : Nat → Option Nat) (wait : Int) : Prop where
  blk : ∀ i, i < n → ∃ c, w.heap[bk B i]? = some (.cells c 97 (0, 0))
  ptr : ∀ i o, i < n → IsPtr o → w.cell? ⟨bk B i, o, none⟩ = some (.pointer (ad B (f i o)))
  wts : ∀ i, i < n → w.cell? ⟨bk B i, 4, none⟩ = some (.pointer (wt i))
  tss : ∀ i, i < n → ∃ t : Int, w.cell? ⟨bk B i, 1, none⟩ = some (.int .u64 t)
  tblk : ∃ c, w.heap[T]? = some (.cells c 84 (0, 0))
  tptr : ∀ o, 6 ≤ o → o ≤ 8 → w.cell? ⟨T, o, none⟩ = some (.pointer (ad B (g o)))
  twt : w.cell? ⟨T, 9, none⟩ = some (.int .i64 wait)
  row : ∀ i, i < n → w.cell? ⟨B, i, none⟩ = some (.pointer (some ⟨bk B i, 0, none⟩))
  top : ∀ i, i < n → T ≠ bk B i
  topB : T ≠ B

def upd (f : Nat → Nat → Option Nat) (k o : Nat) (v : Option Nat) : Nat → Nat → Option Nat := fun i o' => if i = k ∧ o' = o then v else f i o'
def upd1 {α : Type} (g : Nat → α) (o : Nat) (v : α) : Nat → α := fun o' => if o' = o then v else g o'

theorem bk_inj {B i j : Nat} (h : bk B i = bk B j) : i = j := by unfold bk at h; omega
theorem bk_ne {B i j : Nat} (h : i ≠ j) : bk B i ≠ bk B j := fun e => h (bk_inj e)
theorem bk_B (B i : Nat) : bk B i ≠ B := by unfold bk; omega
theorem ad_none (B : Nat) : ad B none = none := rfl
theorem ad_some (B i : Nat) : ad B (some i) = some ⟨bk B i, 0, none⟩ := rfl
theorem ad_inj {B : Nat} {x y : Option Nat} (h : ad B x = ad B y) : x = y := by
  cases x <;> cases y
  · rfl
  · simp [ad, hd] at h
  · simp [ad, hd] at h
  · simp [ad, hd] at h; rw [bk_inj h]

section
variable {w : World} {B n T : Nat} {f : Nat → Nat → Option Nat} {wt : Nat → Option Addr} {g : Nat → Option Nat} {wait : Int}

theorem Mem.free (h : Mem w B n T f wt g wait) {i : Nat} (hi : i < n) (o : Nat) : w.frozen? ⟨bk B i, o, none⟩ = false := by
  obtain ⟨c, hc⟩ := h.blk i hi
  exact frozen_of_row w _ o c 97 hc

theorem Mem.tfree (h : Mem w B n T f wt g wait) (o : Nat) : w.frozen? ⟨T, o, none⟩ = false := by
  obtain ⟨c, hc⟩ := h.tblk
  exact frozen_of_row w _ o c 84 hc

theorem Mem.sound (h : Mem w B n T f wt g wait) {x : Option Nat} (hx : ∀ i, x = some i → i < n) : Sound w (ad B x) := by
  intro a ha
  cases x with
  | none => simp [ad, hd] at ha
  | some i =>
    simp [ad, hd] at ha
    obtain ⟨c, hc⟩ := h.blk i (hx i rfl)
    subst ha
    exact ⟨c, 97, hc⟩

/-- A store into a transaction's pointer. -/
theorem Mem.setPtr (h : Mem w B n T f wt g wait) {k o : Nat} (hk : k < n) (ho : IsPtr o) (v : Option Nat) : Mem (w.setCell ⟨bk B k, o, none⟩ (.pointer (ad B v))) B n T (upd f k o v) wt g wait := by
  have oth : ∀ q o', (q ≠ bk B k ∨ o' ≠ o) → (w.setCell ⟨bk B k, o, none⟩ (.pointer (ad B v))).cell? ⟨q, o', none⟩ = w.cell? ⟨q, o', none⟩ := by
    intro q o' hne
    exact World.cell?_setCell_other _ _ _ _ (by intro e; injection e with e1 e2 _; omega)
  have ho4 : o ≠ 4 ∧ o ≠ 1 := by unfold IsPtr at ho; omega
  refine ⟨fun i hi => ?_, fun i o' hi ho' => ?_, fun i hi => ?_, fun i hi => ?_, ?_, fun o' h1 h2 => ?_, ?_, fun i hi => ?_, h.top, h.topB⟩
  · obtain ⟨c, hc⟩ := h.blk i hi
    by_cases e : i = k
    · subst e; exact ⟨_, heap_setCell_same w _ o c 97 _ hc⟩
    · exact ⟨c, by rw [heap_setCell_other _ _ _ _ (bk_ne e)]; exact hc⟩
  · by_cases e : i = k ∧ o' = o
    · obtain ⟨rfl, rfl⟩ := e
      rw [World.cell?_setCell_same _ _ _ (h.ptr i o' hi ho')]
      simp [upd]
    · rw [oth _ _ (by by_cases e1 : i = k; exact Or.inr (fun e2 => e ⟨e1, e2⟩); exact Or.inl (bk_ne e1)), h.ptr i o' hi ho']
      simp only [upd]; rw [if_neg e]
  · rw [oth _ _ (Or.inr (fun e => ho4.1 e.symm))]; exact h.wts i hi
  · rw [oth _ _ (Or.inr (fun e => ho4.2 e.symm))]; exact h.tss i hi
  · obtain ⟨c, hc⟩ := h.tblk
    exact ⟨c, by rw [heap_setCell_other _ _ _ _ (h.top k hk)]; exact hc⟩
  · rw [oth _ _ (Or.inl (h.top k hk))]; exact h.tptr o' h1 h2
  · rw [oth _ _ (Or.inl (h.top k hk))]; exact h.twt
  · rw [oth _ _ (Or.inl (fun e => bk_B B k e.symm))]; exact h.row i hi

/-- A store into what a transaction wants. -/
theorem Mem.setWant (h : Mem w B n T f wt g wait) {k : Nat} (hk : k < n) (v : Option Addr) : Mem (w.setCell ⟨bk B k, 4, none⟩ (.pointer v)) B n T f (upd1 wt k v) g wait := by
  have oth : ∀ q o', (q ≠ bk B k ∨ o' ≠ 4) → (w.setCell ⟨bk B k, 4, none⟩ (.pointer v)).cell? ⟨q, o', none⟩ = w.cell? ⟨q, o', none⟩ := by
    intro q o' hne
    exact World.cell?_setCell_other _ _ _ _ (by intro e; injection e with e1 e2 _; omega)
  refine ⟨fun i hi => ?_, fun i o' hi ho' => ?_, fun i hi => ?_, fun i hi => ?_, ?_, fun o' h1 h2 => ?_, ?_, fun i hi => ?_, h.top, h.topB⟩
  · obtain ⟨c, hc⟩ := h.blk i hi
    by_cases e : i = k
    · subst e; exact ⟨_, heap_setCell_same w _ 4 c 97 _ hc⟩
    · exact ⟨c, by rw [heap_setCell_other _ _ _ _ (bk_ne e)]; exact hc⟩
  · rw [oth _ _ (Or.inr (by unfold IsPtr at ho'; omega))]; exact h.ptr i o' hi ho'
  · by_cases e : i = k
    · subst e
      rw [World.cell?_setCell_same _ _ _ (h.wts i hi)]
      simp [upd1]
    · rw [oth _ _ (Or.inl (bk_ne e)), h.wts i hi]
      simp only [upd1]; rw [if_neg e]
  · rw [oth _ _ (Or.inr (by decide))]; exact h.tss i hi
  · obtain ⟨c, hc⟩ := h.tblk
    exact ⟨c, by rw [heap_setCell_other _ _ _ _ (h.top k hk)]; exact hc⟩
  · rw [oth _ _ (Or.inl (h.top k hk))]; exact h.tptr o' h1 h2
  · rw [oth _ _ (Or.inl (h.top k hk))]; exact h.twt
  · rw [oth _ _ (Or.inl (fun e => bk_B B k e.symm))]; exact h.row i hi

/-- A store into the table's head, tail or root. -/
theorem Mem.setTab (h : Mem w B n T f wt g wait) {o : Nat} (h6 : 6 ≤ o) (h8 : o ≤ 8) (v : Option Nat) : Mem (w.setCell ⟨T, o, none⟩ (.pointer (ad B v))) B n T f wt (upd1 g o v) wait := by
  have oth : ∀ q o', (q ≠ T ∨ o' ≠ o) → (w.setCell ⟨T, o, none⟩ (.pointer (ad B v))).cell? ⟨q, o', none⟩ = w.cell? ⟨q, o', none⟩ := by
    intro q o' hne
    exact World.cell?_setCell_other _ _ _ _ (by intro e; injection e with e1 e2 _; omega)
  refine ⟨fun i hi => ?_, fun i o' hi ho' => ?_, fun i hi => ?_, fun i hi => ?_, ?_, fun o' h1 h2 => ?_, ?_, fun i hi => ?_, h.top, h.topB⟩
  · obtain ⟨c, hc⟩ := h.blk i hi
    exact ⟨c, by rw [heap_setCell_other _ _ _ _ (fun e => h.top i hi e.symm)]; exact hc⟩
  · rw [oth _ _ (Or.inl (fun e => h.top i hi e.symm))]; exact h.ptr i o' hi ho'
  · rw [oth _ _ (Or.inl (fun e => h.top i hi e.symm))]; exact h.wts i hi
  · rw [oth _ _ (Or.inl (fun e => h.top i hi e.symm))]; exact h.tss i hi
  · obtain ⟨c, hc⟩ := h.tblk
    exact ⟨_, heap_setCell_same w _ o c 84 _ hc⟩
  · by_cases e : o' = o
    · subst e
      rw [World.cell?_setCell_same _ _ _ (h.tptr o' h1 h2)]
      simp [upd1]
    · rw [oth _ _ (Or.inr e), h.tptr o' h1 h2]
      simp only [upd1]; rw [if_neg e]
  · rw [oth _ _ (Or.inr (by omega))]; exact h.twt
  · rw [oth _ _ (Or.inl (fun e => h.topB e.symm))]; exact h.row i hi

/-- A store into the table's count. -/
theorem Mem.setCount (h : Mem w B n T f wt g wait) (v : Int) : Mem (w.setCell ⟨T, 9, none⟩ (.int .i64 v)) B n T f wt g v := by
  have oth : ∀ q o', (q ≠ T ∨ o' ≠ 9) → (w.setCell ⟨T, 9, none⟩ (.int .i64 v)).cell? ⟨q, o', none⟩ = w.cell? ⟨q, o', none⟩ := by
    intro q o' hne
    exact World.cell?_setCell_other _ _ _ _ (by intro e; injection e with e1 e2 _; omega)
  refine ⟨fun i hi => ?_, fun i o' hi ho' => ?_, fun i hi => ?_, fun i hi => ?_, ?_, fun o' h1 h2 => ?_, ?_, fun i hi => ?_, h.top, h.topB⟩
  · obtain ⟨c, hc⟩ := h.blk i hi
    exact ⟨c, by rw [heap_setCell_other _ _ _ _ (fun e => h.top i hi e.symm)]; exact hc⟩
  · rw [oth _ _ (Or.inl (fun e => h.top i hi e.symm))]; exact h.ptr i o' hi ho'
  · rw [oth _ _ (Or.inl (fun e => h.top i hi e.symm))]; exact h.wts i hi
  · rw [oth _ _ (Or.inl (fun e => h.top i hi e.symm))]; exact h.tss i hi
  · obtain ⟨c, hc⟩ := h.tblk
    exact ⟨_, heap_setCell_same w _ 9 c 84 _ hc⟩
  · rw [oth _ _ (Or.inr (by omega))]; exact h.tptr o' h1 h2
  · exact World.cell?_setCell_same _ _ _ h.twt
  · rw [oth _ _ (Or.inl (fun e => h.topB e.symm))]; exact h.row i hi

/-- Draws turn nothing. -/
theorem Mem.drewN (h : Mem w B n T f wt g wait) (m : Nat) : Mem (w.drewN m) B n T f wt g wait := ⟨h.blk, h.ptr, h.wts, h.tss, h.tblk, h.tptr, h.twt, h.row, h.top, h.topB⟩

/-- New memory turns nothing. -/
theorem Mem.below (h : Mem w B n T f wt g wait) {w' : World} (hb : Below w.heap.size w w') (hn : 0 < n) : Mem w' B n T f wt g wait := by
  have lt : ∀ q o v, w.cell? ⟨q, o, none⟩ = some v → w'.cell? ⟨q, o, none⟩ = some v := fun q o v hv => (hb.cell (World.block_lt_of_cell? w _ hv)).trans hv
  have ltb : ∀ (q : Nat) c, w.heap[q]? = some c → w'.heap[q]? = some c := fun q c hc => (hb.block q (Array.getElem?_eq_some_iff.1 hc).1).trans hc
  refine ⟨fun i hi => ?_, fun i o' hi ho' => lt _ _ _ (h.ptr i o' hi ho'), fun i hi => lt _ _ _ (h.wts i hi), fun i hi => ?_, ?_, fun o' h1 h2 => lt _ _ _ (h.tptr o' h1 h2), lt _ _ _ h.twt, fun i hi => lt _ _ _ (h.row i hi), h.top, h.topB⟩
  · obtain ⟨c, hc⟩ := h.blk i hi; exact ⟨c, ltb _ _ hc⟩
  · obtain ⟨t, ht⟩ := h.tss i hi; exact ⟨t, lt _ _ _ ht⟩
  · obtain ⟨c, hc⟩ := h.tblk; exact ⟨c, ltb _ _ hc⟩
end
end Go.Proofs.YbulkanmgRR
