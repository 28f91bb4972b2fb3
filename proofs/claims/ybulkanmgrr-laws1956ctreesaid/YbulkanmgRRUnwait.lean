import Derived.Test.YbulkanmgRRMem
namespace Go.Proofs.YbulkanmgRR
set_option linter.unusedVariables false
set_option linter.unusedSimpArgs false
open Go.RowKit

/-- The links behind the list's part of 'remove'. -/
def unF (f : Nat → Nat → Option Nat) (k : Nat) : Nat → Nat → Option Nat :=
  let f1 := match f k 14 with | none => f | some p => upd f p 15 (f k 15)
  let f2 := match f k 15 with | none => f1 | some q => upd f1 q 14 (f k 14)
  upd (upd f2 k 14 none) k 15 none
def unG (f : Nat → Nat → Option Nat) (g : Nat → Option Nat) (k : Nat) : Nat → Option Nat :=
  let g1 := match f k 14 with | none => upd1 g 6 (f k 15) | some _ => g
  match f k 15 with | none => upd1 g1 7 (f k 14) | some _ => g1

section
variable {w : World} {B n T : Nat} {f : Nat → Nat → Option Nat} {wt : Nat → Option Addr} {g : Nat → Option Nat} {wait : Int}

theorem Mem.unlinked (h : Mem w B n T f wt g wait) {k : Nat} (hk : k < n) (hp : ∀ p, f k 14 = some p → p < n ∧ p ≠ k) (hq : ∀ q, f k 15 = some q → q < n ∧ q ≠ k) :
    Mem (unlinked w T (bk B k) ((f k 14).map (bk B)) ((f k 15).map (bk B))) B n T (unF f k) wt (unG f g k) wait := by
  have i14 : IsPtr 14 := by unfold IsPtr; omega
  have i15 : IsPtr 15 := by unfold IsPtr; omega
  unfold YbulkanmgRR.unlinked unF unG
  refine Mem.setPtr (v := none) (Mem.setPtr (v := none) ?_ hk i14) hk i15
  cases e14 : f k 14 with
  | none =>
    cases e15 : f k 15 with
    | none => exact (h.setTab (o := 6) (by decide) (by decide) none).setTab (o := 7) (by decide) (by decide) none
    | some q => exact (h.setTab (o := 6) (by decide) (by decide) (some q)).setPtr (hq q e15).1 i14 none
  | some p =>
    cases e15 : f k 15 with
    | none => exact (h.setPtr (hp p e14).1 i15 none).setTab (o := 7) (by decide) (by decide) (some p)
    | some q => exact (h.setPtr (hp p e14).1 i15 (some q)).setPtr (hq q e15).1 i14 (some p)

theorem below_unlinked (T b : Nat) (p q : Option Nat) (hT : B ≤ T) (hb : B ≤ b) (hp : ∀ x, p = some x → B ≤ x) (hq : ∀ x, q = some x → B ≤ x) : Below B w (unlinked w T b p q) := by
  unfold unlinked
  refine Below.setCell (Below.setCell (Below.setCell (Below.setCell (Below.refl _ _) ?_ _) ?_ _) hb _) hb _
  · cases p with
    | none => exact hT
    | some x => exact hp x rfl
  · cases q with
    | none => exact hT
    | some x => exact hq x rfl

theorem bk_ge (B i : Nat) : B ≤ bk B i := by unfold bk; omega

/-- 'remove' where there is no tree. -/
theorem remove_mem (h : Mem w B n T f wt g wait) {k : Nat} (hk : k < n) (hp : ∀ p, f k 14 = some p → p < n ∧ p ≠ k) (hq : ∀ q, f k 15 = some q → q < n ∧ q ≠ k) (h8 : g 8 = none) (h22 : f k 22 = none) (hT : B ≤ T) :
    Calls Yba.prog 19 #[.pointer (some ⟨T, 6, none⟩), .int .i64 2, .pointer (some ⟨bk B k, 0, none⟩)] w fun e w' => e = .returned (.tuple #[]) ∧ Mem w' B n T (unF f k) wt (unG f g k) wait ∧ Below B w w' := by
  have i14 : IsPtr 14 := by unfold IsPtr; omega
  have i15 : IsPtr 15 := by unfold IsPtr; omega
  have i22 : IsPtr 22 := by unfold IsPtr; omega
  have c8 := h.tptr 8 (by decide) (by decide)
  have c22 := h.ptr k 22 hk i22
  rw [h8] at c8
  rw [h22] at c22
  obtain ⟨v1, e1⟩ : ∃ v1, w.cell? (fwd T ((f k 14).map (bk B))) = some v1 := by
    cases e : f k 14 with
    | none => exact ⟨_, h.tptr 6 (by decide) (by decide)⟩
    | some p => exact ⟨_, h.ptr p 15 (hp p e).1 i15⟩
  obtain ⟨v2, e2⟩ : ∃ v2, w.cell? (bwd T ((f k 15).map (bk B))) = some v2 := by
    cases e : f k 15 with
    | none => exact ⟨_, h.tptr 7 (by decide) (by decide)⟩
    | some p => exact ⟨_, h.ptr p 14 (hq p e).1 i14⟩
  have z1 : w.frozen? (fwd T ((f k 14).map (bk B))) = false := by
    cases e : f k 14 with
    | none => exact h.tfree 6
    | some p => exact h.free (hp p e).1 15
  have z2 : w.frozen? (bwd T ((f k 15).map (bk B))) = false := by
    cases e : f k 15 with
    | none => exact h.tfree 7
    | some p => exact h.free (hq p e).1 14
  refine (remove_list T (bk B k) ((f k 14).map (bk B)) ((f k 15).map (bk B)) w c8 c22 (h.ptr k 14 hk i14) (h.ptr k 15 hk i15) (h.free hk 14) (h.free hk 15) v1 v2 e1 z1 e2 z2 (h.sound (x := some k) (fun i e => by injection e with e; omega)) ?_ ?_ (h.top k hk)).mono ?_
  · intro x hx
    obtain ⟨p, e, rfl⟩ := Option.map_eq_some_iff.1 hx
    exact bk_ne (hp p e).2
  · intro x hx
    obtain ⟨p, e, rfl⟩ := Option.map_eq_some_iff.1 hx
    exact bk_ne (hq p e).2
  · rintro e w' ⟨rfl, m, rfl⟩
    refine ⟨rfl, (h.unlinked hk hp hq).drewN m, below_drewN (below_unlinked T (bk B k) _ _ hT (bk_ge B k) ?_ ?_) m⟩
    · intro x hx
      obtain ⟨p, e, rfl⟩ := Option.map_eq_some_iff.1 hx
      exact bk_ge B p
    · intro x hx
      obtain ⟨p, e, rfl⟩ := Option.map_eq_some_iff.1 hx
      exact bk_ge B p
end

set_option maxRecDepth 10000 in
set_option maxHeartbeats 400000 in
/-- 'unwait', out of what 'remove' does. -/
theorem unwait_of {w : World} {B n T k : Nat} {f' : Nat → Nat → Option Nat} {wt : Nat → Option Addr} {g' : Nat → Option Nat} {wait : Int} (hk : k < n) (hT : B ≤ T)
    (hr : Calls Yba.prog 19 #[.pointer (some ⟨T, 6, none⟩), .int .i64 2, .pointer (some ⟨bk B k, 0, none⟩)] w fun e w' => e = .returned (.tuple #[]) ∧ Mem w' B n T f' wt g' wait ∧ Below B w w') :
    Calls Yba.prog 10 #[.pointer (some ⟨T, 0, none⟩), .pointer (some ⟨bk B k, 0, none⟩)] w fun e w' => e = .returned (.tuple #[]) ∧ Mem w' B n T f' (upd1 wt k none) g' (wrap64 (wait - 1)) ∧ Below B w w' := by
  have HR : Hid (Calls Yba.prog 19 #[.pointer (some ⟨T, 6, none⟩), .int .i64 2, .pointer (some ⟨bk B k, 0, none⟩)] w fun e w' => e = .returned (.tuple #[]) ∧ Mem w' B n T f' wt g' wait ∧ Below B w w') := hr
  clear hr
  go_enter Yba.func10, Yba.ntmps10
  go_wp2_with fail
  refine HR.out.mono ?_
  rintro e w1 ⟨rfl, hm, hb⟩
  have c9 := hm.twt
  have f9 := hm.tfree 9
  have c4 := hm.wts k hk
  have f4 := hm.free hk 4
  have hne : ¬ T = bk B k := hm.top k hk
  have HM : Hid (Mem w1 B n T f' wt g' wait) := hm
  clear hm
  go_wp2
  go_end0
  exact ⟨rfl, (HM.out.setCount _).setWant hk none, (hb.setCell (p := ⟨T, 9, none⟩) hT _).setCell (p := ⟨bk B k, 4, none⟩) (bk_ge B k) _⟩
end Go.Proofs.YbulkanmgRR
