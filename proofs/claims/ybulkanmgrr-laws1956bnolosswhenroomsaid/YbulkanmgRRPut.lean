import Derived.Test.YbulkanmgRRPush
namespace Go.Proofs.YbulkanmgRR
set_option linter.unusedVariables false
set_option linter.unusedSimpArgs false
open Go.RowKit Go.MuLone

set_option maxHeartbeats 1600000 in
/-- put. -/
theorem put_any (P o sb : Nat) (f : Nat → Option Value) (q : Option Addr) (n cap : Nat) (L aS aL c : Int) (base : Nat) (xs : List Value) (w : World) (hP : PM w P f) (hp : Part f o q n cap L aS aL)
    (hc : w.cell? ⟨sb, 1, none⟩ = some (.int .i64 c)) (hsb : sb ≠ P)
    (hown : w.ownsRow base 51 1 (.slice q n cap) n xs) (hb : P < base) (hbs : base ≤ w.heap.size) (hn : n ≤ 1000) (hL : 0 ≤ L ∧ L ≤ 1000000) (hcc : 0 ≤ c ∧ c ≤ 1000000) (hS : 0 ≤ aS ∧ aS ≤ 1000000) (hA : 0 ≤ aL ∧ aL ≤ 1000000) :
    Calls Yba.prog 15 #[.pointer (some ⟨P, o, none⟩), .pointer (some ⟨sb, 0, none⟩)] w fun e w' => e = .returned (alw (max (n + 1 - aS) 0) (max (L + c - aL) 0)) ∧
      ((max (n + 1 - aS) 0 = 0 ∧ max (L + c - aL) 0 = 0 ∧ Fr (fun k => k = P ∨ (Value.slice q n cap).ownBlock = some k) w w' ∧ ∃ g cap', PM w' P (put1 (put1 f (o + 3) (.int .i64 (L + c))) (o + 2) (.slice (some ⟨g, 0, none⟩) (n + 1) cap'))) ∨
       (¬ (max (n + 1 - aS) 0 = 0 ∧ max (L + c - aL) 0 = 0) ∧ Fr (· = P) w w' ∧ PM w' P f)) := by
  have hlt := hP.lt
  have hsl := World.block_lt_of_cell? w _ hc
  have HO : Hid (w.ownsRow base 51 1 (.slice q n cap) n xs) := hown
  clear hown
  go_enter_defers Yba.func15, Yba.ntmps15
  have hLk := lock_part P o f (w.alloc (Obj.cells #[Value.int IntKind.i64 0, Value.int IntKind.i64 0] 47)) (hP.alloc _) hp.mu
  go_wp2_with (go_at_call 20; refine hLk.mono ?_; rintro e W ⟨rfl, H1, H2, H3⟩; clear hLk; have h2 := (H1.cell (o + 2)).trans ((put1_other f _ (by omega)).trans hp.sets); have h3 := (H1.cell (o + 3)).trans ((put1_other f _ (by omega)).trans hp.locks); have h4 := (H1.cell (o + 4)).trans ((put1_other f _ (by omega)).trans hp.asets); have h5 := (H1.cell (o + 5)).trans ((put1_other f _ (by omega)).trans hp.alocks); have hsc : W.cell? ⟨sb, 1, none⟩ = some (.int .i64 c) := (H2.cell (p := ⟨sb, 1, none⟩) (by simp at hsl ⊢; omega) hsb).trans ((World.cell?_alloc_past _ _ _ hsl).trans hc))
  have n2 := World.new_ne W _ h2
  have n3 := World.new_ne W _ h3
  have n4 := World.new_ne W _ h4
  have n5 := World.new_ne W _ h5
  have ns := World.new_ne W _ hsc
  refine wp_cut (A := ?A) (W := ?W) ?reg ?rest
  case reg =>
    go_region_held3 (fun w' => w'.cell? ⟨P, o + 2, none⟩ = some (.slice q n cap) ∧ w'.cell? ⟨P, o + 3, none⟩ = some (.int .i64 L) ∧ w'.cell? ⟨P, o + 4, none⟩ = some (.int .i64 aS) ∧ w'.cell? ⟨P, o + 5, none⟩ = some (.int .i64 aL) ∧ w'.cell? ⟨sb, 1, none⟩ = some (.int .i64 c)) (go_keep) (fail)
    all_goals exact AtEnd.mk _ _
  have e0 : IntKind.i64.wrap ((n : Int) + 1) = n + 1 := IntWalk.i64_in _ (by omega)
  have e1 : IntKind.i64.wrap ((n : Int) + 1 - aS) = n + 1 - aS := IntWalk.i64_in _ (by omega)
  have e2 : IntKind.i64.wrap (L + c) = L + c := IntWalk.i64_in _ (by omega)
  have e3 : IntKind.i64.wrap (L + c - aL) = L + c - aL := IntWalk.i64_in _ (by omega)
  have e4 : (if (n : Int) + 1 - aS < 0 then (0 : Int) else n + 1 - aS) = max (n + 1 - aS) 0 := by split <;> omega
  have e5 : (if L + c - aL < 0 then (0 : Int) else L + c - aL) = max (L + c - aL) 0 := by split <;> omega
  simp only [e0, e1, e2, e3, e4, e5]
  obtain ⟨gS, hgS⟩ : ∃ g : Int, max ((n : Int) + 1 - aS) 0 = g := ⟨_, rfl⟩
  obtain ⟨gL, hgL⟩ : ∃ g : Int, max (L + c - aL) 0 = g := ⟨_, rfl⟩
  simp only [hgS, hgL]
  obtain ⟨W2, hW2⟩ : ∃ W2, (W.alloc (Obj.cells #[.int .i64 gS, .int .i64 gL] 47)).drew = W2 := ⟨_, rfl⟩
  have hWs : W.heap.size = w.heap.size + 1 := by rw [H3]; simp
  have K1 : PM W2 P (put1 f o (.int .i32 1)) := by rw [← hW2]; exact (H1.alloc _).drew
  have KB : PM W2 (w.heap.size + 1) (box2 (.int .i64 gS) (.int .i64 gL)) := by rw [← hW2, ← hWs]; exact (PM.box2 W _ _ _).drew
  have KR : PM W2 w.heap.size (box2 (.int .i64 0) (.int .i64 0)) := by
    rw [← hW2]
    exact PM.drew (PM.alloc (PM.fr (PM.box2 w _ _ _) H2 (by omega)) _)
  have KF : Fr (· = P) w W2 := by
    rw [← hW2]
    refine ((Fr.trans ?_ H2).alloc _).drew
    exact (Fr.refl _ w).alloc _
  have KS : W2.heap.size = w.heap.size + 1 + 1 := by rw [← hW2]; simp [hWs]
  rw [hW2]
  clear hW2 H1 H2 H3 hWs h2 h3 h4 h5 hsc n2 n3 n4 n5 ns e0 e1 e2 e3 e4 e5 hP
  have mb0 : W2.cell? ⟨w.heap.size + 1, 0, none⟩ = some (.int .i64 gS) := KB.cell 0
  have mb1 : W2.cell? ⟨w.heap.size + 1, 1, none⟩ = some (.int .i64 gL) := KB.cell 1
  have s0 : W2.cell? ⟨w.heap.size, 0, none⟩ = some (.int .i64 0) := KR.cell 0
  have s1 : W2.cell? ⟨w.heap.size, 1, none⟩ = some (.int .i64 0) := KR.cell 1
  have t0 := KR.free 0
  have t1 := KR.free 1
  have hgS0 : 0 ≤ gS := by omega
  have hgL0 : 0 ≤ gL := by omega
  by_cases hz : gS = 0 ∧ gL = 0
  · obtain ⟨rfl, rfl⟩ := hz
    have hown2 : W2.ownsRow base 51 1 (.slice q n cap) n xs := own_fr HO.out KF (fun k hk e => by have := (HO.out.lt k hk).1; omega)
    have hc2 : W2.cell? ⟨sb, 1, none⟩ = some (.int .i64 c) := (KF.cell hsl hsb).trans hc
    have hPu := push_any P o sb (put1 f o (.int .i32 1)) q n cap L c base xs W2 K1 ((put1_other f _ (by omega)).trans hp.sets) ((put1_other f _ (by omega)).trans hp.locks) hc2 hown2 hb (by omega) hn (by omega) hcc
    clear s0 s1 t0 t1 K1 hgS0 hgL0 hown2 hc2
    go_wp2_with (go_at_call 14; refine hPu.mono ?_; clear hPu; rintro e W3 ⟨rfl, g, cap', J1, J2, J3, J4⟩; have KB3 := KB.fr J3 (fun h => by rcases h with h | h; omega; have := (HO.out.lt _ h).2; omega); have KR3 := KR.fr J3 (fun h => by rcases h with h | h; omega; have := (HO.out.lt _ h).2; omega); have mb0 : W3.cell? ⟨w.heap.size + 1, 0, none⟩ = some (.int .i64 0) := KB3.cell 0; have mb1 : W3.cell? ⟨w.heap.size + 1, 1, none⟩ = some (.int .i64 0) := KB3.cell 1; have s0 : W3.cell? ⟨w.heap.size, 0, none⟩ = some (.int .i64 0) := KR3.cell 0; have s1 : W3.cell? ⟨w.heap.size, 1, none⟩ = some (.int .i64 0) := KR3.cell 1; have t0 := KR3.free 0; have t1 := KR3.free 1)
    go_wp2_with fail
    have Q1 : PM ((W3.setCell ⟨w.heap.size, 0, none⟩ (.int .i64 0)).setCell ⟨w.heap.size, 1, none⟩ (.int .i64 0)) P _ := (J1.other _ _ (by simp; omega)).other _ _ (by simp; omega)
    have Q2 : PM ((W3.setCell ⟨w.heap.size, 0, none⟩ (.int .i64 0)).setCell ⟨w.heap.size, 1, none⟩ (.int .i64 0)) w.heap.size (put1 (put1 (box2 (.int .i64 0) (.int .i64 0)) 0 (.int .i64 0)) 1 (.int .i64 0)) := (KR3.set 0 _ rfl).set 1 _ rfl
    have Q3 : Fr (fun k => k = P ∨ (Value.slice q n cap).ownBlock = some k) w ((W3.setCell ⟨w.heap.size, 0, none⟩ (.int .i64 0)).setCell ⟨w.heap.size, 1, none⟩ (.int .i64 0)) := (((KF.mono (fun _ _ e => .inl e)).trans J3).setCell _ _ (.inr (by simp))).setCell _ _ (.inr (by simp))
    refine leaves_cons (f := 21) (args := #[.pointer (some ⟨P, o, none⟩)]) (by simp) (by simp [go_sem]) ?_
    refine (unlock_part P o _ .returning _ Q1 (by simp [put1])).mono ?_
    rintro e u' W5 ⟨rfl, rfl, U1, U2, U3⟩
    have V2 := Q2.fr U2 (by omega)
    have v0 : W5.cell? ⟨w.heap.size, 0, none⟩ = some (.int .i64 0) := V2.cell 0
    have v1 : W5.cell? ⟨w.heap.size, 1, none⟩ = some (.int .i64 0) := V2.cell 1
    refine ⟨alw 0 0, by simp [results, Yba.results15, go_sem, v0, v1], ?_⟩
    rw [hgS, hgL]
    refine ⟨rfl, .inl ⟨rfl, rfl, Q3.trans (U2.mono (fun _ _ e => .inl e)), g, cap', U1.congr (fun k => ?_)⟩⟩
    simp only [put1]
    by_cases e1 : k = o
    · subst e1; simp [hp.mu]
    · simp [e1]
  · have hz' : ¬ gS = 0 ∨ (gS = 0 ∧ ¬ gL = 0) := by omega
    rcases hz' with hz1 | ⟨hz1, hz2⟩
    · go_wp2_with fail
      have Q1 : PM ((W2.setCell ⟨w.heap.size, 0, none⟩ (.int .i64 gS)).setCell ⟨w.heap.size, 1, none⟩ (.int .i64 gL)) P (put1 f o (.int .i32 1)) := (K1.other _ _ (by simp; omega)).other _ _ (by simp; omega)
      have Q2 : PM ((W2.setCell ⟨w.heap.size, 0, none⟩ (.int .i64 gS)).setCell ⟨w.heap.size, 1, none⟩ (.int .i64 gL)) w.heap.size (put1 (put1 (box2 (.int .i64 0) (.int .i64 0)) 0 (.int .i64 gS)) 1 (.int .i64 gL)) := (KR.set 0 _ rfl).set 1 _ rfl
      have Q3 : Fr (· = P) w ((W2.setCell ⟨w.heap.size, 0, none⟩ (.int .i64 gS)).setCell ⟨w.heap.size, 1, none⟩ (.int .i64 gL)) := (KF.setCell _ _ (.inr (by simp))).setCell _ _ (.inr (by simp))
      refine leaves_cons (f := 21) (args := #[.pointer (some ⟨P, o, none⟩)]) (by simp) (by simp [go_sem]) ?_
      refine (unlock_part P o _ .returning _ Q1 (by simp [put1])).mono ?_
      rintro e u' W5 ⟨rfl, rfl, U1, U2, U3⟩
      have V2 := Q2.fr U2 (by omega)
      have v0 : W5.cell? ⟨w.heap.size, 0, none⟩ = some (.int .i64 gS) := V2.cell 0
      have v1 : W5.cell? ⟨w.heap.size, 1, none⟩ = some (.int .i64 gL) := V2.cell 1
      refine ⟨alw gS gL, by simp [results, Yba.results15, go_sem, v0, v1], ?_⟩
      rw [hgS, hgL]
      refine ⟨rfl, .inr ⟨by omega, Q3.trans U2, U1.congr (fun k => ?_)⟩⟩
      simp only [put1]
      by_cases e1 : k = o
      · subst e1; simp [hp.mu]
      · simp [e1]
    · subst hz1
      go_wp2_with fail
      have Q1 : PM ((W2.setCell ⟨w.heap.size, 0, none⟩ (.int .i64 0)).setCell ⟨w.heap.size, 1, none⟩ (.int .i64 gL)) P (put1 f o (.int .i32 1)) := (K1.other _ _ (by simp; omega)).other _ _ (by simp; omega)
      have Q2 : PM ((W2.setCell ⟨w.heap.size, 0, none⟩ (.int .i64 0)).setCell ⟨w.heap.size, 1, none⟩ (.int .i64 gL)) w.heap.size (put1 (put1 (box2 (.int .i64 0) (.int .i64 0)) 0 (.int .i64 0)) 1 (.int .i64 gL)) := (KR.set 0 _ rfl).set 1 _ rfl
      have Q3 : Fr (· = P) w ((W2.setCell ⟨w.heap.size, 0, none⟩ (.int .i64 0)).setCell ⟨w.heap.size, 1, none⟩ (.int .i64 gL)) := (KF.setCell _ _ (.inr (by simp))).setCell _ _ (.inr (by simp))
      refine leaves_cons (f := 21) (args := #[.pointer (some ⟨P, o, none⟩)]) (by simp) (by simp [go_sem]) ?_
      refine (unlock_part P o _ .returning _ Q1 (by simp [put1])).mono ?_
      rintro e u' W5 ⟨rfl, rfl, U1, U2, U3⟩
      have V2 := Q2.fr U2 (by omega)
      have v0 : W5.cell? ⟨w.heap.size, 0, none⟩ = some (.int .i64 0) := V2.cell 0
      have v1 : W5.cell? ⟨w.heap.size, 1, none⟩ = some (.int .i64 gL) := V2.cell 1
      refine ⟨alw 0 gL, by simp [results, Yba.results15, go_sem, v0, v1], ?_⟩
      refine ⟨rfl, Q3.trans U2, U1.congr (fun k => ?_)⟩
      simp only [put1]
      by_cases e1 : k = o
      · subst e1; simp [hp.mu]
      · simp [e1]
end Go.Proofs.YbulkanmgRR
