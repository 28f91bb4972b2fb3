import Derived.Test.YbulkanmgRRCede
import Derived.Test.YbulkanmgRRExpected
import Derived.Deep.AppendLies
namespace Go.Proofs.YbulkanmgRR
set_option linter.unusedVariables false
set_option linter.unusedSimpArgs false
open Go.RowKit Go.MuLone

theorem Yba.info51 : (Yba.prog.info? 51).map (fun i => (i.zero, i.size, i.bytes)) = some (some (.pointer none), 1, 8) := by kernel_rfl

theorem own_fr {w w' : World} {S : Nat → Prop} {base n : Nat} {e : TypeId} {v : Value} {xs : List Value} (h : w.ownsRow base e 1 v n xs) (hf : Fr S w w') (hs : ∀ k, v.ownBlock = some k → ¬ S k) : w'.ownsRow base e 1 v n xs := by
  refine ⟨h.1, h.2.imp id ?_⟩
  rintro ⟨g, cap, cur, rfl, h1, h2, h3⟩
  exact ⟨g, cap, cur, rfl, h1, (hf.block g (Array.getElem?_eq_some_iff.1 h2).1 (hs g rfl)).trans h2, h3⟩

theorem Fr.of_grown {S : Nat → Prop} {w w' : World} {row : Option Nat} (h : w.grownBy w' row) (hs : ∀ k, row = some k → S k) : Fr S w w' :=
  ⟨h.os, h.tape, h.output, h.size, fun k hk hn => h.block k hk (fun e => hn (hs k e.symm))⟩

set_option maxHeartbeats 1600000 in
/-- push. -/
theorem push_any (P o sb : Nat) (f : Nat → Option Value) (q : Option Addr) (n cap : Nat) (L c : Int) (base : Nat) (xs : List Value) (w : World) (hP : PM w P f)
    (h2 : f (o + 2) = some (.slice q n cap)) (h3 : f (o + 3) = some (.int .i64 L)) (hc : w.cell? ⟨sb, 1, none⟩ = some (.int .i64 c))
    (hown : w.ownsRow base 51 1 (.slice q n cap) n xs) (hb : P < base) (hbs : base ≤ w.heap.size) (hn : n ≤ 1000) (hL : -1000000 ≤ L ∧ L ≤ 1000000) (hcc : 0 ≤ c ∧ c ≤ 1000000) :
    Calls Yba.prog 14 #[.pointer (some ⟨P, o, none⟩), .pointer (some ⟨sb, 0, none⟩)] w fun e w' => e = .returned (.tuple #[]) ∧ ∃ g cap',
      PM w' P (put1 (put1 f (o + 3) (.int .i64 (L + c))) (o + 2) (.slice (some ⟨g, 0, none⟩) (n + 1) cap')) ∧
      w'.ownsRow base 51 1 (.slice (some ⟨g, 0, none⟩) (n + 1) cap') (n + 1) (xs ++ [.pointer (some ⟨sb, 0, none⟩)]) ∧
      Fr (fun k => k = P ∨ (Value.slice q n cap).ownBlock = some k) w w' ∧ (base ≤ g ∧ ((Value.slice q n cap).ownBlock = some g ∨ w.heap.size ≤ g)) := by
  have hlt := hP.lt
  obtain ⟨i0, hi, hz0, hz1, hz2⟩ := info_parts Yba.info51
  have c3 := (hP.cell (o + 3)).trans h3
  have c2 := (hP.cell (o + 2)).trans h2
  have f3 := hP.free (o + 3)
  have HP : Hid (PM w P f) := hP
  have HO : Hid (w.ownsRow base 51 1 (.slice q n cap) n xs) := hown
  clear hP hown
  go_enter Yba.func14, Yba.ntmps14
  go_wp2_with fail
  refine wp_cut (A := ?A) (W := ?W) ?reg ?rest
  case reg =>
    go_region
    all_goals exact AtEnd.mk _ _
  obtain ⟨W1, hW1⟩ : ∃ W1, (w.setCell ⟨P, o + 3, none⟩ (.int .i64 (L + c))).drew = W1 := ⟨_, rfl⟩
  have K1 : PM W1 P (put1 f (o + 3) (.int .i64 (L + c))) := by rw [← hW1]; exact (HP.out.set (o + 3) _ (by rw [h3]; rfl)).drew
  have KF : Fr (fun k => k = P) w W1 := by rw [← hW1]; exact ((Fr.refl (fun k => k = P) w).setCell _ _ (.inl rfl)).drew
  have hown1 : W1.ownsRow base 51 1 (.slice q n cap) n xs := own_fr HO.out KF (fun k hk e => by have := (HO.out.lt k hk).1; omega)
  have hs1 : base ≤ W1.heap.size := Nat.le_trans hbs KF.size
  have hlt1 := K1.lt
  rw [hW1]
  have d2 := (K1.cell (o + 2)).trans ((put1_other f _ (by omega)).trans h2)
  clear hW1 c3 c2 f3 HP HO hc h3
  go_wp2_with (at_builtin; go_must (refine wpList_append_lies _ rfl _ _ 45 rfl base 51 i0 (.pointer none) 1 8 Yba.underlying45 hi hz0 hz1 hz2 rfl (by decide) (.slice q n cap) n xs rfl (hown1.alloc _) ⟨W1.heap.size, 0, none⟩ 1 1 [.pointer (some ⟨sb, 0, none⟩)] rfl rfl (new_cells W1 [_] 51 _ rfl) (one_ptr _) (by decide) (by unfold maxLen; omega) (by omega) (by simp; omega) (W1.heap.size + 1) (by simp) ?_); intro g cap' W2 hrow2 hgrow2 hg hgl; go_must (have hf2 : Fr (fun k => (Value.slice q n cap).ownBlock = some k) W1 W2 := Fr.trans ((Fr.refl _ W1).alloc _) (Fr.of_grown hgrow2 (fun _ h => h)); have hP2 : PM W2 P (put1 f (o + 3) (.int .i64 (L + c))) := K1.fr hf2 (fun h => by have := (hown1.lt P h).1; omega); have e2 : W2.cell? ⟨P, o + 2, none⟩ = some (.slice q n cap) := (hP2.cell (o + 2)).trans ((put1_other f _ (by omega)).trans h2); have ef := hP2.free (o + 2)))
  go_end0
  have hgb : base ≤ g := by
    rcases hg with hg | hg
    · exact (hown1.lt g hg).1
    · omega
  refine ⟨rfl, g, cap', hP2.set (o + 2) _ (by rw [put1_other f _ (by omega), h2]; rfl), own_fr (S := fun k => k = P) hrow2 ((Fr.refl (fun k => k = P) W2).setCell _ _ (.inl rfl)) (fun k hk e => ?_), ?_, hgb, hg.imp id (fun e => by have := KF.size; omega)⟩
  · have e3 : some g = some k := hk
    injection e3 with e3
    omega
  · exact ((KF.mono (fun k _ e => Or.inl e)).trans (hf2.mono (fun k _ e => Or.inr e))).setCell _ _ (.inl (.inl rfl))
end Go.Proofs.YbulkanmgRR
