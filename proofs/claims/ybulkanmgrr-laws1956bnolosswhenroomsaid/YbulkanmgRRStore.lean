import Derived.Test.YbulkanmgRRFns
import Derived.Test.YbulkanmgRRMu
import Derived.Below
import Derived.Defers
import Derived.RangeFuncNested
namespace Go.Proofs.YbulkanmgRR
set_option linter.unusedVariables false
set_option linter.unusedSimpArgs false
open Go.RowKit

/-- What a walk leaves that turns none of the blocks laid ahead of it, but those of S. -/
structure Fr (S : Nat → Prop) (w w' : World) : Prop where
  os : w'.os = w.os
  tape : w'.tape = w.tape
  output : w'.output = w.output
  size : w.heap.size ≤ w'.heap.size
  block : ∀ k, k < w.heap.size → ¬ S k → w'.heap[k]? = w.heap[k]?

theorem Fr.refl (S : Nat → Prop) (w : World) : Fr S w w := ⟨rfl, rfl, rfl, Nat.le_refl _, fun _ _ _ => rfl⟩
theorem Fr.trans {S : Nat → Prop} {a b c : World} (h : Fr S a b) (k : Fr S b c) : Fr S a c :=
  ⟨k.os.trans h.os, k.tape.trans h.tape, k.output.trans h.output, Nat.le_trans h.size k.size, fun x hx hs => (k.block x (Nat.lt_of_lt_of_le hx h.size) hs).trans (h.block x hx hs)⟩
theorem Fr.mono {S T : Nat → Prop} {a b : World} (h : Fr S a b) (hs : ∀ k, k < a.heap.size → S k → T k) : Fr T a b :=
  ⟨h.os, h.tape, h.output, h.size, fun k hk ht => h.block k hk (fun s => ht (hs k hk s))⟩
theorem Fr.drew {S : Nat → Prop} {a b : World} (h : Fr S a b) : Fr S a b.drew := ⟨h.os, h.tape, h.output, h.size, h.block⟩
theorem Fr.alloc {S : Nat → Prop} {a b : World} (h : Fr S a b) (o : Obj) : Fr S a (b.alloc o) :=
  ⟨h.os, h.tape, h.output, by simp; have := h.size; omega, fun k hk hs => (Below.heap_alloc b o k (by have := h.size; omega)).trans (h.block k hk hs)⟩
theorem Fr.setCell {S : Nat → Prop} {a b : World} (h : Fr S a b) (p : Addr) (u : Value) (hp : S p.block ∨ a.heap.size ≤ p.block) : Fr S a (b.setCell p u) :=
  ⟨h.os, h.tape, h.output, by simpa using h.size, fun k hk hs => (Below.heap_setCell b p u k (by rintro rfl; rcases hp with hp | hp; exact hs hp; omega)).trans (h.block k hk hs)⟩
theorem Fr.of_below {S : Nat → Prop} {a b : World} (h : Below a.heap.size a b) : Fr S a b := ⟨h.os, h.tape, h.output, h.size, fun k hk _ => h.block k hk⟩
theorem Fr.below {S : Nat → Prop} {a b : World} (h : Fr S a b) (n : Nat) (hn : n ≤ a.heap.size) (hs : ∀ k, k < n → ¬ S k) : Below n a b :=
  ⟨h.os, h.tape, h.output, h.size, fun k hk => h.block k (by omega) (hs k hk)⟩
theorem Fr.cell {S : Nat → Prop} {a b : World} (h : Fr S a b) {p : Addr} (hp : p.block < a.heap.size) (hs : ¬ S p.block) : b.cell? p = a.cell? p := World.cell?_of_block (w := a) (h.block _ hp hs)
theorem Fr.frozen {S : Nat → Prop} {a b : World} (h : Fr S a b) {p : Addr} (hp : p.block < a.heap.size) (hs : ¬ S p.block) : b.frozen? p = a.frozen? p := World.frozen?_of_block (w := a) (h.block _ hp hs)
theorem Fr.keeps {S : Nat → Prop} {a b : World} (h : Fr S a b) (hs : ∀ k, S k → ∃ c t, b.heap[k]? = some (.cells c t (0, 0)) ∧ ∃ c' t', a.heap[k]? = some (.cells c' t' (0, 0))) : KeepsOthers a b := by
  refine ⟨h.size, fun k o hk ho => ?_⟩
  by_cases e : S k
  · obtain ⟨_, _, _, c', t', h'⟩ := hs k e
    rw [h'] at hk; injection hk with hk; subst hk; simp [Obj.isCells] at ho
  · exact (h.block k (Array.getElem?_eq_some_iff.1 hk).1 e).trans hk

/-- The walk of a region ends here, whatever the order. -/
def AtEnd (A : Act) (W : World) : Exit → Act → World → Prop
  | .normal, a, w => a = A ∧ w = W
  | .ret, _, _ => False
  | .exit _, _, _ => False
  | .goto _, _, _ => False
  | .panic _, _, _ => False
  | .outgrown, _, _ => False
theorem AtEnd.mk (A : Act) (W : World) : AtEnd A W .normal A W := ⟨rfl, rfl⟩
theorem wp_cut {P : Program} {c : Code} {Q : Exit → Act → World → Prop} {a : Act} {w : World} {A : Act} {W : World} (h : c.wp P (AtEnd A W) a w) (k : Q .normal A W) : c.wp P Q a w :=
  Code.wp_mono (fun e a' w' h => by cases e <;> first | (obtain ⟨rfl, rfl⟩ := h; exact k) | exact (h : False).elim) h

/-- The walk of a region ends with this frame, in a world of R. -/
def AtEndR (A : Act) (R : World → Prop) : Exit → Act → World → Prop
  | .normal, a, w => a = A ∧ R w
  | .ret, _, _ => False
  | .exit _, _, _ => False
  | .goto _, _, _ => False
  | .panic _, _, _ => False
  | .outgrown, _, _ => False
theorem AtEndR.mk (A : Act) {R : World → Prop} {W : World} (h : R W) : AtEndR A R .normal A W := ⟨rfl, h⟩
theorem wp_cutR {P : Program} {c : Code} {Q : Exit → Act → World → Prop} {a : Act} {w : World} {A : Act} (R : World → Prop) (h : c.wp P (AtEndR A R) a w) (k : ∀ w', R w' → Q .normal A w') : c.wp P Q a w :=
  Code.wp_mono (fun e a' w' hr => by cases e <;> first | (obtain ⟨rfl, hr⟩ := hr; exact k _ hr) | exact (hr : False).elim) h

/-- The block b is plain cells and holds f. -/
def PM (w : World) (b : Nat) (f : Nat → Option Value) : Prop := ∃ c t, w.heap[b]? = some (.cells c t (0, 0)) ∧ ∀ k : Nat, c[k]? = f k

def put1 (f : Nat → Option Value) (k : Nat) (v : Value) : Nat → Option Value := fun j => if j = k then some v else f j

theorem put1_same (f : Nat → Option Value) (k : Nat) (v : Value) : put1 f k v k = some v := by simp [put1]
theorem put1_other (f : Nat → Option Value) {k j : Nat} (v : Value) (h : j ≠ k) : put1 f k v j = f j := by simp [put1, h]

section
variable {w : World} {b : Nat} {f : Nat → Option Value}

theorem PM.lt (h : PM w b f) : b < w.heap.size := by
  obtain ⟨c, t, hc, _⟩ := h; exact (Array.getElem?_eq_some_iff.1 hc).1
theorem PM.cell (h : PM w b f) (k : Nat) : w.cell? ⟨b, k, none⟩ = f k := by
  obtain ⟨c, t, hc, hk⟩ := h; rw [← hk k]; simp [World.cell?, hc]
theorem PM.free (h : PM w b f) (k : Nat) : w.frozen? ⟨b, k, none⟩ = false := by
  obtain ⟨c, t, hc, hk⟩ := h; exact frozen_of_row w b k c t hc
theorem PM.sound (h : PM w b f) (k : Nat) : Sound w (some ⟨b, k, none⟩) := by
  obtain ⟨c, t, hc, hk⟩ := h; intro x e; cases e; exact ⟨c, t, hc⟩
theorem PM.drew (h : PM w b f) : PM w.drew b f := h
theorem PM.alloc (h : PM w b f) (o : Obj) : PM (w.alloc o) b f := by
  have hl := h.lt
  obtain ⟨c, t, hc, hk⟩ := h; exact ⟨c, t, (Below.heap_alloc w o b hl).trans hc, hk⟩
theorem PM.other (h : PM w b f) (a : Addr) (v : Value) (ha : b ≠ a.block) : PM (w.setCell a v) b f := by
  obtain ⟨c, t, hc, hk⟩ := h; exact ⟨c, t, (Below.heap_setCell w a v b ha).trans hc, hk⟩
theorem PM.set (h : PM w b f) (k : Nat) (v : Value) (hs : (f k).isSome = true) : PM (w.setCell ⟨b, k, none⟩ v) b (put1 f k v) := by
  obtain ⟨c, t, hc, hk⟩ := h
  refine ⟨_, t, heap_setCell_same w b k c t v hc, fun j => ?_⟩
  have hlt : k < c.size := by
    rw [← hk k] at hs
    by_cases e : k < c.size
    · exact e
    · simp [Array.getElem?_eq_none (Nat.le_of_not_lt e)] at hs
  by_cases e : j = k
  · subst e; simp [put1, hlt]
  · simp [put1, e, Array.getElem?_setIfInBounds, Ne.symm e, hk]
theorem PM.fr (h : PM w b f) {S : Nat → Prop} {w' : World} (hf : Fr S w w') (hs : ¬ S b) : PM w' b f := by
  have hl := h.lt
  obtain ⟨c, t, hc, hk⟩ := h; exact ⟨c, t, (hf.block b hl hs).trans hc, hk⟩
theorem PM.congr (h : PM w b f) {g : Nat → Option Value} (e : ∀ k, f k = g k) : PM w b g := by
  obtain ⟨c, t, hc, hk⟩ := h; exact ⟨c, t, hc, fun k => (hk k).trans (e k)⟩
theorem PM.new (w : World) (c : Array Value) (t : Nat) : PM (w.alloc (.cells c t (0, 0))) w.heap.size (fun k => c[k]?) :=
  ⟨c, t, World.alloc_heap_new w _, fun _ => rfl⟩
end

/-- A block of two cells. -/
def box2 (a b : Value) : Nat → Option Value
  | 0 => some a
  | 1 => some b
  | _ => none
theorem PM.box2 (w : World) (a b : Value) (t : Nat) : PM (w.alloc (.cells #[a, b] t (0, 0))) w.heap.size (box2 a b) :=
  (PM.new w #[a, b] t).congr (fun k => by match k with | 0 => rfl | 1 => rfl | k + 2 => simp [YbulkanmgRR.box2])
theorem Fr.of_drew {S : Nat → Prop} {a b : World} (h : Fr S a.drew b) : Fr S a b := ⟨h.os, h.tape, h.output, h.size, h.block⟩
end Go.Proofs.YbulkanmgRR
