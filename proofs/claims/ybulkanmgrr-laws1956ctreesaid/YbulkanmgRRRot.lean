import Derived.Test.YbulkanmgRRUnwait
namespace Go.Proofs.YbulkanmgRR
set_option linter.unusedVariables false
set_option linter.unusedSimpArgs false
open Go.RowKit

def z1 (t : Int) : Int := IntKind.u64.wrap (t + 11400714819323198485)
def z2 (t : Int) : Int := IntKind.u64.wrap (bits BinOp.xor IntKind.u64 (z1 t) (z1 t / 1073741824) * 13787848793156543929)
def z3 (t : Int) : Int := IntKind.u64.wrap (bits BinOp.xor IntKind.u64 (z2 t) (z2 t / 134217728) * 10723151780598845931)
/-- A transaction's priority, out of its timestamp. -/
def prio (t : Int) : Int := bits BinOp.xor IntKind.u64 (z3 t) (z3 t / 2147483648)

set_option maxRecDepth 10000 in
set_option maxHeartbeats 400000 in
theorem priority_any (b : Nat) (t : Int) (w : World) (h1 : w.cell? ⟨b, 1, none⟩ = some (.int .u64 t)) :
    Calls Yba.prog 29 #[.pointer (some ⟨b, 0, none⟩)] w fun e w' => e = .returned (.int .u64 (prio t)) ∧ w' = w := by
  go_enter Yba.func29, Yba.ntmps29
  go_wp2
  go_ret
  exact ⟨rfl, rfl⟩

/-- The links behind 'replace': t in old's place under pp. -/
def repF (f : Nat → Nat → Option Nat) (pp : Option Nat) (old : Nat) (t : Option Nat) : Nat → Nat → Option Nat :=
  match pp with
  | none => f
  | some p => if f p 23 = some old then upd f p 23 t else upd f p 24 t
def repG (g : Nat → Option Nat) (pp : Option Nat) (t : Option Nat) : Nat → Option Nat :=
  match pp with
  | none => upd1 g 8 t
  | some _ => g

theorem repF_other (f : Nat → Nat → Option Nat) (pp : Option Nat) (old : Nat) (t : Option Nat) (i o : Nat) (h1 : o ≠ 23) (h2 : o ≠ 24) : repF f pp old t i o = f i o := by
  unfold repF
  cases pp with
  | none => rfl
  | some p =>
    by_cases e : f p 23 = some old
    · simp [e, upd, h1]
    · simp [e, upd, h2]

theorem replace_mem {w : World} {B n T : Nat} {f : Nat → Nat → Option Nat} {wt : Nat → Option Addr} {g : Nat → Option Nat} {wait : Int} (h : Mem w B n T f wt g wait) (pp : Option Nat) (old : Nat) (t : Option Nat) (hT : B ≤ T) (ho : old < n)
    (hp : ∀ p, pp = some p → p < n ∧ ∀ j, f p 23 = some j → j < n) :
    Calls Yba.prog 31 #[.pointer (some ⟨T, 6, none⟩), .int .i64 2, .pointer (ad B pp), .pointer (some ⟨bk B old, 0, none⟩), .pointer (ad B t)] w fun e w' => e = .returned (.tuple #[]) ∧ Mem w' B n T (repF f pp old t) wt (repG g pp t) wait ∧ Below B w w' := by
  have i23 : IsPtr 23 := by unfold IsPtr; omega
  have i24 : IsPtr 24 := by unfold IsPtr; omega
  have so : Sound w (some ⟨bk B old, 0, none⟩) := h.sound (x := some old) (fun i e => by injection e with e; omega)
  cases pp with
  | none =>
    refine (replace_root T _ (ad B t) _ w (h.tptr 8 (by decide) (by decide)) (h.tfree 8)).mono ?_
    rintro e w' ⟨rfl, rfl⟩
    exact ⟨rfl, h.setTab (by decide) (by decide) t, (Below.refl _ _).setCell (p := ⟨T, 8, none⟩) hT _⟩
  | some p =>
    obtain ⟨hpn, hpj⟩ := hp p rfl
    by_cases e : f p 23 = some old
    · have c := h.ptr p 23 hpn i23
      rw [e] at c
      have ef : repF f (some p) old t = upd f p 23 t := by simp [repF, e]
      rw [ef]
      refine (replace_left (bk B p) (bk B old) _ (ad B t) w c (h.free hpn 23) so).mono ?_
      rintro e w' ⟨rfl, rfl⟩
      exact ⟨rfl, h.setPtr hpn i23 t, (Below.refl _ _).setCell (p := ⟨bk B p, 23, none⟩) (bk_ge B p) _⟩
    · have ef : repF f (some p) old t = upd f p 24 t := by simp [repF, e]
      rw [ef]
      refine (replace_right (bk B p) (bk B old) _ (ad B t) (ad B (f p 23)) _ w (h.ptr p 23 hpn i23) (fun e' => e (ad_inj (y := some old) e')) (h.ptr p 24 hpn i24) (h.free hpn 24) so (h.sound (fun i e => hpj i e))).mono ?_
      rintro e w' ⟨rfl, rfl⟩
      exact ⟨rfl, h.setPtr hpn i24 t, (Below.refl _ _).setCell (p := ⟨bk B p, 24, none⟩) (bk_ge B p) _⟩

/-- The links behind 'rotateUp' of a, the left child of k. -/
def rot1L (f : Nat → Nat → Option Nat) (a k : Nat) : Nat → Nat → Option Nat :=
  let f1 := upd (upd f k 23 (f a 24)) a 24 (some k)
  match f a 24 with | none => f1 | some x => upd f1 x 22 (some k)
def rotL (f : Nat → Nat → Option Nat) (a k : Nat) : Nat → Nat → Option Nat :=
  upd (upd (repF (rot1L f a k) (f k 22) k (some a)) a 22 (f k 22)) k 22 (some a)
/-- .. the right child. -/
def rot1R (f : Nat → Nat → Option Nat) (a k : Nat) : Nat → Nat → Option Nat :=
  let f1 := upd (upd f k 24 (f a 23)) a 23 (some k)
  match f a 23 with | none => f1 | some x => upd f1 x 22 (some k)
def rotR (f : Nat → Nat → Option Nat) (a k : Nat) : Nat → Nat → Option Nat :=
  upd (upd (repF (rot1R f a k) (f k 22) k (some a)) a 22 (f k 22)) k 22 (some a)

set_option maxRecDepth 10000 in
set_option maxHeartbeats 1000000 in
theorem rotate_left {w : World} {B n T : Nat} {f : Nat → Nat → Option Nat} {wt : Nat → Option Addr} {g : Nat → Option Nat} {wait : Int} (h : Mem w B n T f wt g wait) (a k : Nat) (hT : B ≤ T) (ha : a < n) (hk : k < n) (hak : a ≠ k)
    (e22 : f a 22 = some k) (e23 : f k 23 = some a) (hx : ∀ x, f a 24 = some x → x < n ∧ x ≠ k)
    (hp : ∀ p, f k 22 = some p → p < n ∧ p ≠ k ∧ ∀ j, rot1L f a k p 23 = some j → j < n) :
    Calls Yba.prog 30 #[.pointer (some ⟨T, 6, none⟩), .int .i64 2, .pointer (some ⟨bk B a, 0, none⟩)] w fun e w' => e = .returned (.tuple #[]) ∧ Mem w' B n T (rotL f a k) wt (repG g (f k 22) (some a)) wait ∧ Below B w w' := by
  have i22 : IsPtr 22 := by unfold IsPtr; omega
  have i23 : IsPtr 23 := by unfold IsPtr; omega
  have i24 : IsPtr 24 := by unfold IsPtr; omega
  have so : Sound w (some ⟨bk B a, 0, none⟩) := h.sound (x := some a) (fun i e => by injection e with e; omega)
  have he := eql_ptr w (some ⟨bk B a, 0, none⟩) (some ⟨bk B a, 0, none⟩) so so true (by simp)
  have c22 := h.ptr a 22 ha i22
  rw [e22, ad_some] at c22
  have c23 := h.ptr k 23 hk i23
  rw [e23, ad_some] at c23
  have cp := h.ptr k 22 hk i22
  have fk23 := h.free hk 23
  have fa24 := h.free ha 24
  have hne : ¬ bk B a = bk B k := bk_ne hak
  have hne' : ¬ bk B k = bk B a := fun e => hne e.symm
  have HM : Hid (Mem w B n T f wt g wait) := h
  have HP : Hid (∀ p, f k 22 = some p → p < n ∧ p ≠ k ∧ ∀ j, rot1L f a k p 23 = some j → j < n) := hp
  have c24 := h.ptr a 24 ha i24
  clear h so hp
  cases e24 : f a 24 with
  | none =>
    rw [e24, ad_none] at c24
    have HE : Hid (rot1L f a k = upd (upd f k 23 none) a 24 (some k)) := by simp [Hid, rot1L, e24]
    clear e24 hx
    go_enter Yba.func30, Yba.ntmps30
    go_wp2_with fail
    have M1 : Mem ((w.setCell ⟨bk B k, 23, none⟩ (.pointer none)).setCell ⟨bk B a, 24, none⟩ (.pointer (some ⟨bk B k, 0, none⟩))) B n T (rot1L f a k) wt g wait := by
      rw [HE.out]; exact (HM.out.setPtr hk i23 none).setPtr ha i24 (some k)
    have B1 : Below B w ((w.setCell ⟨bk B k, 23, none⟩ (.pointer none)).setCell ⟨bk B a, 24, none⟩ (.pointer (some ⟨bk B k, 0, none⟩))) :=
      ((Below.refl _ _).setCell (p := ⟨bk B k, 23, none⟩) (bk_ge B k) _).setCell (p := ⟨bk B a, 24, none⟩) (bk_ge B a) _
    have e1 : rot1L f a k k 22 = f k 22 := by rw [HE.out]; simp [upd]
    refine (replace_mem M1 (f k 22) k (some a) hT hk (fun p hp => ⟨(HP.out p hp).1, (HP.out p hp).2.2⟩)).mono ?_
    rintro e w2 ⟨rfl, M2, B2⟩
    have e2 : repF (rot1L f a k) (f k 22) k (some a) k 22 = f k 22 := (repF_other _ _ _ _ _ 22 (by decide) (by decide)).trans e1
    have d22 := M2.ptr k 22 hk i22
    rw [e2] at d22
    have fa22 := M2.free ha 22
    have fk22 := M2.free hk 22
    have ca22 := M2.ptr a 22 ha i22
    have HM2 : Hid (Mem w2 B n T (repF (rot1L f a k) (f k 22) k (some a)) wt (repG g (f k 22) (some a)) wait) := M2
    clear M1 M2 e1 e2 cp c22 c23 c24 fk23 fa24 he e22 e23
    go_wp2
    go_end0
    exact ⟨rfl, (HM2.out.setPtr ha i22 (f k 22)).setPtr hk i22 (some a), ((B1.trans B2).setCell (p := ⟨bk B a, 22, none⟩) (bk_ge B a) _).setCell (p := ⟨bk B k, 22, none⟩) (bk_ge B k) _⟩
  | some x =>
    obtain ⟨hxn, hxk⟩ := hx x e24
    rw [e24, ad_some] at c24
    have cx := HM.out.ptr x 22 hxn i22
    have fx := HM.out.free hxn 22
    have HE : Hid (rot1L f a k = upd (upd (upd f k 23 (some x)) a 24 (some k)) x 22 (some k)) := by simp [Hid, rot1L, e24]
    have hnx : ¬ bk B x = bk B k := bk_ne hxk
    clear e24 hx
    go_enter Yba.func30, Yba.ntmps30
    go_wp2_with fail
    have M1 : Mem (((w.setCell ⟨bk B k, 23, none⟩ (.pointer (some ⟨bk B x, 0, none⟩))).setCell ⟨bk B a, 24, none⟩ (.pointer (some ⟨bk B k, 0, none⟩))).setCell ⟨bk B x, 22, none⟩ (.pointer (some ⟨bk B k, 0, none⟩))) B n T (rot1L f a k) wt g wait := by
      rw [HE.out]; exact ((HM.out.setPtr hk i23 (some x)).setPtr ha i24 (some k)).setPtr hxn i22 (some k)
    have B1 : Below B w (((w.setCell ⟨bk B k, 23, none⟩ (.pointer (some ⟨bk B x, 0, none⟩))).setCell ⟨bk B a, 24, none⟩ (.pointer (some ⟨bk B k, 0, none⟩))).setCell ⟨bk B x, 22, none⟩ (.pointer (some ⟨bk B k, 0, none⟩))) :=
      (((Below.refl _ _).setCell (p := ⟨bk B k, 23, none⟩) (bk_ge B k) _).setCell (p := ⟨bk B a, 24, none⟩) (bk_ge B a) _).setCell (p := ⟨bk B x, 22, none⟩) (bk_ge B x) _
    have e1 : rot1L f a k k 22 = f k 22 := by
      have : ¬ k = x := fun e => hxk e.symm
      rw [HE.out]; simp [upd, this]
    refine (replace_mem M1 (f k 22) k (some a) hT hk (fun p hp => ⟨(HP.out p hp).1, (HP.out p hp).2.2⟩)).mono ?_
    rintro e w2 ⟨rfl, M2, B2⟩
    have e2 : repF (rot1L f a k) (f k 22) k (some a) k 22 = f k 22 := (repF_other _ _ _ _ _ 22 (by decide) (by decide)).trans e1
    have d22 := M2.ptr k 22 hk i22
    rw [e2] at d22
    have fa22 := M2.free ha 22
    have fk22 := M2.free hk 22
    have ca22 := M2.ptr a 22 ha i22
    have HM2 : Hid (Mem w2 B n T (repF (rot1L f a k) (f k 22) k (some a)) wt (repG g (f k 22) (some a)) wait) := M2
    clear M1 M2 e1 e2 cp c22 c23 c24 fk23 fa24 he e22 e23 cx fx
    go_wp2
    go_end0
    exact ⟨rfl, (HM2.out.setPtr ha i22 (f k 22)).setPtr hk i22 (some a), ((B1.trans B2).setCell (p := ⟨bk B a, 22, none⟩) (bk_ge B a) _).setCell (p := ⟨bk B k, 22, none⟩) (bk_ge B k) _⟩
set_option maxRecDepth 10000 in
set_option maxHeartbeats 1000000 in
theorem rotate_right {w : World} {B n T : Nat} {f : Nat → Nat → Option Nat} {wt : Nat → Option Addr} {g : Nat → Option Nat} {wait : Int} (h : Mem w B n T f wt g wait) (a k : Nat) (hT : B ≤ T) (ha : a < n) (hk : k < n) (hak : a ≠ k)
    (e22 : f a 22 = some k) (e24 : f k 24 = some a) (e23' : ∀ j, f k 23 = some j → j < n ∧ j ≠ a) (hx : ∀ x, f a 23 = some x → x < n ∧ x ≠ k)
    (hp : ∀ p, f k 22 = some p → p < n ∧ p ≠ k ∧ ∀ j, rot1R f a k p 23 = some j → j < n) :
    Calls Yba.prog 30 #[.pointer (some ⟨T, 6, none⟩), .int .i64 2, .pointer (some ⟨bk B a, 0, none⟩)] w fun e w' => e = .returned (.tuple #[]) ∧ Mem w' B n T (rotR f a k) wt (repG g (f k 22) (some a)) wait ∧ Below B w w' := by
  have i22 : IsPtr 22 := by unfold IsPtr; omega
  have i24 : IsPtr 24 := by unfold IsPtr; omega
  have i23 : IsPtr 23 := by unfold IsPtr; omega
  have so : Sound w (some ⟨bk B a, 0, none⟩) := h.sound (x := some a) (fun i e => by injection e with e; omega)
  have cl := h.ptr k 23 hk i23
  have he := eql_ptr w (ad B (f k 23)) (some ⟨bk B a, 0, none⟩) (h.sound (fun i e => (e23' i e).1)) so false (by
    constructor
    · intro e; cases e
    · intro e; exact absurd rfl (e23' a (ad_inj (y := some a) e)).2)
  have c22 := h.ptr a 22 ha i22
  rw [e22, ad_some] at c22
  have c24 := h.ptr k 24 hk i24
  rw [e24, ad_some] at c24
  have cp := h.ptr k 22 hk i22
  have fk24 := h.free hk 24
  have fa23 := h.free ha 23
  have hne : ¬ bk B a = bk B k := bk_ne hak
  have hne' : ¬ bk B k = bk B a := fun e => hne e.symm
  have HM : Hid (Mem w B n T f wt g wait) := h
  have HP : Hid (∀ p, f k 22 = some p → p < n ∧ p ≠ k ∧ ∀ j, rot1R f a k p 23 = some j → j < n) := hp
  have c23 := h.ptr a 23 ha i23
  clear h so hp
  cases e23 : f a 23 with
  | none =>
    rw [e23, ad_none] at c23
    have HE : Hid (rot1R f a k = upd (upd f k 24 none) a 23 (some k)) := by simp [Hid, rot1R, e23]
    clear e23 hx
    go_enter Yba.func30, Yba.ntmps30
    go_wp2_with fail
    have M1 : Mem ((w.setCell ⟨bk B k, 24, none⟩ (.pointer none)).setCell ⟨bk B a, 23, none⟩ (.pointer (some ⟨bk B k, 0, none⟩))) B n T (rot1R f a k) wt g wait := by
      rw [HE.out]; exact (HM.out.setPtr hk i24 none).setPtr ha i23 (some k)
    have B1 : Below B w ((w.setCell ⟨bk B k, 24, none⟩ (.pointer none)).setCell ⟨bk B a, 23, none⟩ (.pointer (some ⟨bk B k, 0, none⟩))) :=
      ((Below.refl _ _).setCell (p := ⟨bk B k, 24, none⟩) (bk_ge B k) _).setCell (p := ⟨bk B a, 23, none⟩) (bk_ge B a) _
    have e1 : rot1R f a k k 22 = f k 22 := by rw [HE.out]; simp [upd]
    refine (replace_mem M1 (f k 22) k (some a) hT hk (fun p hp => ⟨(HP.out p hp).1, (HP.out p hp).2.2⟩)).mono ?_
    rintro e w2 ⟨rfl, M2, B2⟩
    have e2 : repF (rot1R f a k) (f k 22) k (some a) k 22 = f k 22 := (repF_other _ _ _ _ _ 22 (by decide) (by decide)).trans e1
    have d22 := M2.ptr k 22 hk i22
    rw [e2] at d22
    have fa22 := M2.free ha 22
    have fk22 := M2.free hk 22
    have ca22 := M2.ptr a 22 ha i22
    have HM2 : Hid (Mem w2 B n T (repF (rot1R f a k) (f k 22) k (some a)) wt (repG g (f k 22) (some a)) wait) := M2
    clear M1 M2 e1 e2 cl cp c22 c24 c23 fk24 fa23 he e22 e24
    go_wp2
    go_end0
    exact ⟨rfl, (HM2.out.setPtr ha i22 (f k 22)).setPtr hk i22 (some a), ((B1.trans B2).setCell (p := ⟨bk B a, 22, none⟩) (bk_ge B a) _).setCell (p := ⟨bk B k, 22, none⟩) (bk_ge B k) _⟩
  | some x =>
    obtain ⟨hxn, hxk⟩ := hx x e23
    rw [e23, ad_some] at c23
    have cx := HM.out.ptr x 22 hxn i22
    have fx := HM.out.free hxn 22
    have HE : Hid (rot1R f a k = upd (upd (upd f k 24 (some x)) a 23 (some k)) x 22 (some k)) := by simp [Hid, rot1R, e23]
    have hnx : ¬ bk B x = bk B k := bk_ne hxk
    clear e23 hx
    go_enter Yba.func30, Yba.ntmps30
    go_wp2_with fail
    have M1 : Mem (((w.setCell ⟨bk B k, 24, none⟩ (.pointer (some ⟨bk B x, 0, none⟩))).setCell ⟨bk B a, 23, none⟩ (.pointer (some ⟨bk B k, 0, none⟩))).setCell ⟨bk B x, 22, none⟩ (.pointer (some ⟨bk B k, 0, none⟩))) B n T (rot1R f a k) wt g wait := by
      rw [HE.out]; exact ((HM.out.setPtr hk i24 (some x)).setPtr ha i23 (some k)).setPtr hxn i22 (some k)
    have B1 : Below B w (((w.setCell ⟨bk B k, 24, none⟩ (.pointer (some ⟨bk B x, 0, none⟩))).setCell ⟨bk B a, 23, none⟩ (.pointer (some ⟨bk B k, 0, none⟩))).setCell ⟨bk B x, 22, none⟩ (.pointer (some ⟨bk B k, 0, none⟩))) :=
      (((Below.refl _ _).setCell (p := ⟨bk B k, 24, none⟩) (bk_ge B k) _).setCell (p := ⟨bk B a, 23, none⟩) (bk_ge B a) _).setCell (p := ⟨bk B x, 22, none⟩) (bk_ge B x) _
    have e1 : rot1R f a k k 22 = f k 22 := by
      have : ¬ k = x := fun e => hxk e.symm
      rw [HE.out]; simp [upd, this]
    refine (replace_mem M1 (f k 22) k (some a) hT hk (fun p hp => ⟨(HP.out p hp).1, (HP.out p hp).2.2⟩)).mono ?_
    rintro e w2 ⟨rfl, M2, B2⟩
    have e2 : repF (rot1R f a k) (f k 22) k (some a) k 22 = f k 22 := (repF_other _ _ _ _ _ 22 (by decide) (by decide)).trans e1
    have d22 := M2.ptr k 22 hk i22
    rw [e2] at d22
    have fa22 := M2.free ha 22
    have fk22 := M2.free hk 22
    have ca22 := M2.ptr a 22 ha i22
    have HM2 : Hid (Mem w2 B n T (repF (rot1R f a k) (f k 22) k (some a)) wt (repG g (f k 22) (some a)) wait) := M2
    clear M1 M2 e1 e2 cl cp c22 c24 c23 fk24 fa23 he e22 e24 cx fx
    go_wp2
    go_end0
    exact ⟨rfl, (HM2.out.setPtr ha i22 (f k 22)).setPtr hk i22 (some a), ((B1.trans B2).setCell (p := ⟨bk B a, 22, none⟩) (bk_ge B a) _).setCell (p := ⟨bk B k, 22, none⟩) (bk_ge B k) _⟩
end Go.Proofs.YbulkanmgRR
