import Derived.Test.YbulkanmgRRStore
import Derived.Deep.RegionHeld3
namespace Go.Proofs.YbulkanmgRR
set_option linter.unusedVariables false
set_option linter.unusedSimpArgs false
open Go.RowKit Go.MuLone

/-- An allowance. -/
abbrev alw (s l : Int) : Value := .agg #[.int .i64 s, .int .i64 l]

set_option maxHeartbeats 800000 in
/-- minus. -/
theorem minus_any (a b c d : Int) (w : World) :
    Calls Yba.prog 23 #[alw a b, alw c d] w fun e w' => e = .returned (alw (wrap64 (a - c)) (wrap64 (b - d))) ∧ Below w.heap.size w w' := by
  go_enter Yba.func23, Yba.ntmps23
  go_wp2
  refine bodyPost_ret (v := alw (wrap64 (a - c)) (wrap64 (b - d))) (by simp [results, Yba.results23, go_sem]) rfl ⟨rfl, ?_⟩
  exact (((Below.refl _ w).alloc (by simp) _).alloc (by simp) _).alloc (by simp; omega) _

theorem below_drewL {n : Nat} {a b : World} (h : Below n a.drew b) : Below n a b := ⟨h.os, h.tape, h.output, h.size, h.block⟩

/-- A part of the store, in the block P at the offset o. -/
structure Part (f : Nat → Option Value) (o : Nat) (q : Option Addr) (n cap : Nat) (L aS aL : Int) : Prop where
  mu : f o = some (.int .i32 0)
  sets : f (o + 2) = some (.slice q n cap)
  locks : f (o + 3) = some (.int .i64 L)
  asets : f (o + 4) = some (.int .i64 aS)
  alocks : f (o + 5) = some (.int .i64 aL)

/-- The lock of a part is free: it is taken. -/
theorem lock_part (P o : Nat) (f : Nat → Option Value) (w : World) (hP : PM w P f) (hm : f o = some (.int .i32 0)) :
    Calls Yba.prog 20 #[.pointer (some ⟨P, o, none⟩)] w fun e w' => e = .returned (.tuple #[]) ∧ PM w' P (put1 f o (.int .i32 1)) ∧ Fr (· = P) w w' ∧ w'.heap.size = w.heap.size := by
  refine (lock_free muLib ⟨P, o, none⟩ w ((hP.cell o).trans hm) (hP.free o)).mono ?_
  rintro e w' ⟨rfl, rfl⟩
  exact ⟨rfl, hP.set o _ (by rw [hm]; rfl), (Fr.refl _ w).setCell _ _ (.inl rfl), by simp⟩

/-- The lock of a part is held: it is let go, at the door. -/
theorem unlock_part (P o : Nat) (f : Nat → Option Value) (u : FrameMode) (w : World) (hP : PM w P f) (hm : f o = some (.int .i32 1)) :
    CallsD Yba.prog 21 #[.pointer (some ⟨P, o, none⟩)] u w fun e u' w' => u' = u ∧ e = .returned (.tuple #[]) ∧ PM w' P (put1 f o (.int .i32 0)) ∧ Fr (· = P) w w' ∧ w'.heap.size = w.heap.size := by
  refine (unlock_deferred muLib ⟨P, o, none⟩ u w ((hP.cell o).trans hm) (hP.free o)).mono ?_
  rintro e u' w' ⟨rfl, rfl, rfl⟩
  exact ⟨rfl, rfl, hP.set o _ (by rw [hm]; rfl), (Fr.refl _ w).setCell _ _ (.inl rfl), by simp⟩

set_option maxHeartbeats 1600000 in
/-- cede. -/
theorem cede_any (P o : Nat) (f : Nat → Option Value) (q : Option Addr) (n cap : Nat) (L aS aL a b : Int) (w : World) (hP : PM w P f) (hp : Part f o q n cap L aS aL)
    (ha : -1000000 ≤ a ∧ a ≤ 1000000) (hb : -1000000 ≤ b ∧ b ≤ 1000000) (hL : 0 ≤ L ∧ L ≤ 1000000) (hS : 0 ≤ aS ∧ aS ≤ 1000000) (hA : 0 ≤ aL ∧ aL ≤ 1000000) (hn : n ≤ 1000000) :
    Calls Yba.prog 24 #[.pointer (some ⟨P, o, none⟩), alw a b] w fun e w' => e = .returned (alw (min a (aS - max (n : Int) 1)) (min b (aL - L))) ∧ Fr (· = P) w w' ∧
      PM w' P (put1 (put1 f (o + 4) (.int .i64 (aS - min a (aS - max (n : Int) 1)))) (o + 5) (.int .i64 (aL - min b (aL - L)))) := by
  have hlt := hP.lt
  go_enter_defers Yba.func24, Yba.ntmps24
  have hLk := lock_part P o f ((w.alloc (Obj.cells #[Value.int IntKind.i64 a, Value.int IntKind.i64 b] 47)).alloc (Obj.cells #[Value.int IntKind.i64 0, Value.int IntKind.i64 0] 47)) ((hP.alloc _).alloc _) hp.mu
  go_wp2_with (go_at_call 20; refine hLk.mono ?_; rintro e W ⟨rfl, H1, H2, H3⟩; clear hLk; have h2 := (H1.cell (o + 2)).trans ((put1_other f _ (by omega)).trans hp.sets); have h3 := (H1.cell (o + 3)).trans ((put1_other f _ (by omega)).trans hp.locks); have h4 := (H1.cell (o + 4)).trans ((put1_other f _ (by omega)).trans hp.asets); have h5 := (H1.cell (o + 5)).trans ((put1_other f _ (by omega)).trans hp.alocks); have f4 := H1.free (o + 4); have f5 := H1.free (o + 5); have hltW := H1.lt; have hb0 : W.cell? ⟨w.heap.size, 0, none⟩ = some (.int .i64 a) := (H2.cell (by simp; omega) (by simp; omega)).trans (by rw [World.cell?_alloc_past _ _ _ (by simp)]; exact (PM.box2 w _ _ _).cell 0); have hb1 : W.cell? ⟨w.heap.size, 1, none⟩ = some (.int .i64 b) := (H2.cell (by simp; omega) (by simp; omega)).trans (by rw [World.cell?_alloc_past _ _ _ (by simp)]; exact (PM.box2 w _ _ _).cell 1); have hs1 : w.heap.size < W.heap.size := by rw [H3]; simp; omega)
  have n2 := World.new_ne W _ h2
  have n3 := World.new_ne W _ h3
  have n4 := World.new_ne W _ h4
  have n5 := World.new_ne W _ h5
  have nb0 := World.new_ne W _ hb0
  have nb1 := World.new_ne W _ hb1
  refine wp_cut (A := ?A) (W := ?W) ?reg ?rest
  case reg =>
    go_region_held3 (fun w' => w'.cell? ⟨P, o + 2, none⟩ = some (.slice q n cap) ∧ w'.cell? ⟨P, o + 3, none⟩ = some (.int .i64 L) ∧ w'.cell? ⟨P, o + 4, none⟩ = some (.int .i64 aS) ∧ w'.cell? ⟨P, o + 5, none⟩ = some (.int .i64 aL) ∧ w'.cell? ⟨w.heap.size, 0, none⟩ = some (.int .i64 a) ∧ w'.cell? ⟨w.heap.size, 1, none⟩ = some (.int .i64 b)) (go_keep) (fail)
    all_goals exact AtEnd.mk _ _
  have e0 : (if (n : Int) < 1 then (1 : Int) else n) = max (n : Int) 1 := by split <;> omega
  have e1 : IntKind.i64.wrap (aS - max (n : Int) 1) = aS - max (n : Int) 1 := IntWalk.i64_in _ (by omega)
  have e2 : IntKind.i64.wrap (aL - L) = aL - L := IntWalk.i64_in _ (by omega)
  have e3 : (if aS - max (n : Int) 1 < a then aS - max (n : Int) 1 else a) = min a (aS - max (n : Int) 1) := by split <;> omega
  have e4 : (if aL - L < b then aL - L else b) = min b (aL - L) := by split <;> omega
  simp only [e0, e1, e2, e3, e4]
  obtain ⟨gS, hgS⟩ : ∃ g : Int, min a (aS - max (n : Int) 1) = g := ⟨_, rfl⟩
  obtain ⟨gL, hgL⟩ : ∃ g : Int, min b (aL - L) = g := ⟨_, rfl⟩
  simp only [hgS, hgL]
  obtain ⟨W2, hW2⟩ : ∃ W2, (W.alloc (Obj.cells #[.int .i64 gS, .int .i64 gL] 47)).drew = W2 := ⟨_, rfl⟩
  have hWs : W.heap.size = w.heap.size + 1 + 1 := by rw [H3]; simp
  have K1 : PM W2 P (put1 f o (.int .i32 1)) := by rw [← hW2]; exact (H1.alloc _).drew
  have KB : PM W2 (w.heap.size + 1 + 1) (box2 (.int .i64 gS) (.int .i64 gL)) := by rw [← hW2, ← hWs]; exact (PM.box2 W _ _ _).drew
  have KR : PM W2 (w.heap.size + 1) (box2 (.int .i64 0) (.int .i64 0)) := by
    rw [← hW2]
    refine PM.drew (PM.alloc (PM.fr ?_ H2 (by omega)) _)
    have := PM.box2 (w.alloc (Obj.cells #[Value.int IntKind.i64 a, Value.int IntKind.i64 b] 47)) (Value.int IntKind.i64 0) (Value.int IntKind.i64 0) 47
    rw [World.size_alloc] at this
    exact this
  have KF : Fr (· = P) w W2 := by
    rw [← hW2]
    refine ((Fr.trans ?_ H2).alloc _).drew
    exact ((Fr.refl _ w).alloc _).alloc _
  have KS : W2.heap.size = w.heap.size + 1 + 1 + 1 := by rw [← hW2]; simp [hWs]
  rw [hW2]
  clear hW2 H1 H2 H3 hWs h2 h3 h4 h5 f4 f5 hltW hb0 hb1 hs1 n2 n3 n4 n5 nb0 nb1 e0 e1 e2 e3 e4 hP
  have m4 := (K1.cell (o + 4)).trans ((put1_other f _ (by omega)).trans hp.asets)
  have m5 := (K1.cell (o + 5)).trans ((put1_other f _ (by omega)).trans hp.alocks)
  have mb0 : W2.cell? ⟨w.heap.size + 1 + 1, 0, none⟩ = some (.int .i64 gS) := KB.cell 0
  have mb1 : W2.cell? ⟨w.heap.size + 1 + 1, 1, none⟩ = some (.int .i64 gL) := KB.cell 1
  go_wp2_with fail
  refine wp_cutR (A := ?A2) (fun w' => PM w' P (put1 (put1 (put1 f o (.int .i32 1)) (o + 4) (.int .i64 (aS - gS))) (o + 5) (.int .i64 (aL - gL))) ∧ Fr (· = P) w w' ∧ PM w' (w.heap.size + 1 + 1) (box2 (.int .i64 gS) (.int .i64 gL)) ∧ PM w' (w.heap.size + 1) (box2 (.int .i64 0) (.int .i64 0))) ?reg2 ?rest2
  case reg2 =>
    go_region_with (go_at_call 23; go_loud (refine (minus_any _ _ _ _ _).mono ?_; rintro e W3 ⟨rfl, hB⟩; have hB' : Below W2.heap.size W2 W3 := below_drewL hB; clear hB; have hF3 : Fr (· = P) w W3 := KF.trans (Fr.of_below hB'); have hP3 : PM W3 P (put1 f o (.int .i32 1)) := K1.fr (S := fun _ => False) (Fr.of_below hB') (fun h => h); have hB3 : PM W3 (w.heap.size + 1 + 1) (box2 (.int .i64 gS) (.int .i64 gL)) := KB.fr (S := fun _ => False) (Fr.of_below hB') (fun h => h); have hR3 : PM W3 (w.heap.size + 1) (box2 (.int .i64 0) (.int .i64 0)) := KR.fr (S := fun _ => False) (Fr.of_below hB') (fun h => h); have k4 := (hP3.cell (o + 4)).trans ((put1_other f _ (by omega)).trans hp.asets); have k5 := (hP3.cell (o + 5)).trans ((put1_other f _ (by omega)).trans hp.alocks); have kb0 : W3.cell? ⟨w.heap.size + 1 + 1, 0, none⟩ = some (.int .i64 gS) := hB3.cell 0; have kb1 : W3.cell? ⟨w.heap.size + 1 + 1, 1, none⟩ = some (.int .i64 gL) := hB3.cell 1; have kf4 := hP3.free (o + 4); have kf5 := hP3.free (o + 5)))
    all_goals simp only [show wrap64 (aS - gS) = aS - gS from IntWalk.wrap64_in _ (by omega), show wrap64 (aL - gL) = aL - gL from IntWalk.wrap64_in _ (by omega)]
    all_goals refine AtEndR.mk _ ?_
    all_goals exact ⟨(hP3.set (o + 4) _ (by rw [put1_other f _ (by omega), hp.asets]; rfl)).set (o + 5) _ (by rw [put1_other _ _ (by omega), put1_other f _ (by omega), hp.alocks]; rfl), (hF3.setCell _ _ (.inl rfl)).setCell _ _ (.inl rfl), (hB3.other _ _ (by simp; omega)).other _ _ (by simp; omega), (hR3.other _ _ (by simp; omega)).other _ _ (by simp; omega)⟩
  rintro W4 ⟨R1, R2, R3, R4⟩
  clear K1 KB KR KF KS m4 m5 mb0 mb1
  have r0 : W4.cell? ⟨w.heap.size + 1 + 1, 0, none⟩ = some (.int .i64 gS) := R3.cell 0
  have r1 : W4.cell? ⟨w.heap.size + 1 + 1, 1, none⟩ = some (.int .i64 gL) := R3.cell 1
  have s0 : W4.cell? ⟨w.heap.size + 1, 0, none⟩ = some (.int .i64 0) := R4.cell 0
  have s1 : W4.cell? ⟨w.heap.size + 1, 1, none⟩ = some (.int .i64 0) := R4.cell 1
  have t0 := R4.free 0
  have t1 := R4.free 1
  go_wp2
  have Q1 : PM ((W4.setCell ⟨w.heap.size + 1, 0, none⟩ (.int .i64 gS)).setCell ⟨w.heap.size + 1, 1, none⟩ (.int .i64 gL)) P (put1 (put1 (put1 f o (Value.int IntKind.i32 1)) (o + 4) (Value.int IntKind.i64 (aS - gS))) (o + 5) (Value.int IntKind.i64 (aL - gL))) := (R1.other _ _ (by simp; omega)).other _ _ (by simp; omega)
  have Q2 : PM ((W4.setCell ⟨w.heap.size + 1, 0, none⟩ (.int .i64 gS)).setCell ⟨w.heap.size + 1, 1, none⟩ (.int .i64 gL)) (w.heap.size + 1) (put1 (put1 (box2 (.int .i64 0) (.int .i64 0)) 0 (.int .i64 gS)) 1 (.int .i64 gL)) := (R4.set 0 _ rfl).set 1 _ rfl
  have Q3 : Fr (· = P) w ((W4.setCell ⟨w.heap.size + 1, 0, none⟩ (.int .i64 gS)).setCell ⟨w.heap.size + 1, 1, none⟩ (.int .i64 gL)) := (R2.setCell _ _ (.inr (by simp))).setCell _ _ (.inr (by simp))
  clear r0 r1 s0 s1 t0 t1 R1 R2 R3 R4
  refine leaves_cons (f := 21) (args := #[.pointer (some ⟨P, o, none⟩)]) (by simp) (by simp [go_sem]) ?_
  refine (unlock_part P o _ .returning _ Q1 (by simp [put1])).mono ?_
  rintro e u' W5 ⟨rfl, rfl, U1, U2, U3⟩
  have V2 := Q2.fr U2 (by omega)
  have v0 : W5.cell? ⟨w.heap.size + 1, 0, none⟩ = some (.int .i64 gS) := V2.cell 0
  have v1 : W5.cell? ⟨w.heap.size + 1, 1, none⟩ = some (.int .i64 gL) := V2.cell 1
  refine ⟨alw gS gL, by simp [results, Yba.results24, go_sem, v0, v1], ?_⟩
  rw [hgS, hgL]
  refine ⟨rfl, Q3.trans U2, U1.congr (fun k => ?_)⟩
  simp only [put1]
  by_cases e1 : k = o
  · subst e1; simp [hp.mu]
  · simp [e1]
end Go.Proofs.YbulkanmgRR
