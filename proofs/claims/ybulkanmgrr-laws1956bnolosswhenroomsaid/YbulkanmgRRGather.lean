import Derived.Test.YbulkanmgRROthers
import Derived.Test.YbulkanmgRRRooms
namespace Go.Proofs.YbulkanmgRR
set_option linter.unusedVariables false
set_option linter.unusedSimpArgs false
open Go.RowKit Go.Shelf
attribute [local go_sem] Oper.semAt_some

theorem oth_all (n h i : Nat) (hi : i < n) (hn : i ≠ h) : i ∈ (oth n h n).map (·.1) := by
  simp only [oth, List.mem_map, List.mem_filterMap, List.mem_range]
  exact ⟨⟨i, hi, hn⟩, ⟨i, hi, by simp [hi, hn]⟩, rfl⟩

/-- Between two rounds. -/
def GJ (w : World) (P n h : Nat) (a0 : Nat → Pt) (wS wL : Int) (B : Nat) (lS lL : Int) (pre : List (Oth n h)) (W : World) : Prop :=
  ∃ (f : Nat → Option Value) (a : Nat → Pt), PM W P f ∧ (∀ i, i < n → PartAt f i (a i)) ∧ Inv n h a0 a wS wL lS lL (pre.map (·.1)) ∧
    PM W B (box2 (.int .i64 wS) (.int .i64 wL)) ∧ PM W (B + 1) (box2 (.int .i64 0) (.int .i64 0)) ∧ PM W (B + 2) (box2 (.int .i64 lS) (.int .i64 lL)) ∧ B + 5 ≤ W.heap.size ∧ Fr (· = P) w W

theorem PM.grown {w w' : World} {b : Nat} {f : Nat → Option Value} {row : Option Nat} (h : PM w b f) (hg : w.grownBy w' row) (hr : ∀ r, row = some r → ∃ o : Obj, w.heap[r]? = some o ∧ o.isCells = false) : PM w' b f := by
  have hl := h.lt
  obtain ⟨c, t, hc, hk⟩ := h
  refine ⟨c, t, (hg.block b hl (fun e => ?_)).trans hc, hk⟩
  obtain ⟨o, ho, ho2⟩ := hr b e.symm
  rw [hc] at ho; injection ho with ho; subst ho; simp [Obj.isCells] at ho2

theorem GJ.own {w : World} {P n h : Nat} {a0 : Nat → Pt} {wS wL : Int} {B : Nat} (m : Nat) (hm : w.heap.size ≤ m) (lS lL : Int) : OwnFrom m (GJ w P n h a0 wS wL B lS lL) := by
  rintro pre W W' row ⟨f, a, h1, h2, h3, h4, h5, h6, h8, h7⟩ hg hr
  have hr' : ∀ r, row = some r → ∃ o : Obj, W.heap[r]? = some o ∧ o.isCells = false := fun r e => (hr r e).2
  refine ⟨f, a, h1.grown hg hr', h2, h3, h4.grown hg hr', h5.grown hg hr', h6.grown hg hr', Nat.le_trans h8 hg.size, ⟨hg.os.trans h7.os, hg.tape.trans h7.tape, hg.output.trans h7.output, Nat.le_trans h7.size hg.size, fun k hk hs => ?_⟩⟩
  exact (hg.block k (Nat.lt_of_lt_of_le hk h7.size) (fun e => by have := (hr k e.symm).1; omega)).trans (h7.block k hk hs)

theorem Fr.putObj {S : Nat → Prop} {a b : World} (h : Fr S a b) (D : Nat) (o : Obj) (hD : a.heap.size ≤ D) : Fr S a (b.putObj D o) :=
  ⟨h.os, h.tape, h.output, by simpa using h.size, fun k hk hs => (World.putObj_heap_other (by omega)).trans (h.block k hk hs)⟩
theorem PM.putObj {w : World} {b : Nat} {f : Nat → Option Value} (h : PM w b f) (D : Nat) (o : Obj) (hD : D ≠ b) : PM (w.putObj D o) b f := by
  obtain ⟨c, t, hc, hk⟩ := h
  exact ⟨c, t, (World.putObj_heap_other (by omega)).trans hc, hk⟩

theorem wpIn_cutR {F : Fence} {n : Nat} {P : Program} {c : Code} {Q : Exit → Act → World → Prop} {a : Act} {w : World} {A : Act} (R : World → Prop) (h : c.wpIn F n P (AtEndR A R) a w) (k : ∀ w', R w' → Q .normal A w') : c.wpIn F n P Q a w :=
  wpIn_mono h (fun e a' w' hr => by cases e <;> first | (obtain ⟨rfl, hr⟩ := hr; exact k _ hr) | exact (hr : False).elim)

set_option maxRecDepth 100000 in
set_option maxHeartbeats 2000000 in
/-- gather. -/
theorem gather_any (P S n h : Nat) (f : Nat → Option Value) (a0 : Nat → Pt) (wS wL : Int) (w : World) (hP : PM w P f) (hp : ∀ i, i < n → PartAt f i (a0 i)) (hf : ∀ i, i < n → Fit (a0 i)) (hh : h < n) (hn : n ≤ 8)
    (hS : w.cell? ⟨S, 0, none⟩ = some (.slice (some ⟨P, 0, none⟩) n n)) (hSP : S ≠ P) (h1 : 0 ≤ wS ∧ wS ≤ 1000) (h2 : 0 ≤ wL ∧ wL ≤ 1000) :
    Calls Yba.prog 17 #[.pointer (some ⟨S, 0, none⟩), .pointer (some ⟨P, h * 78, none⟩), alw wS wL] w fun e w' => ∃ gS gL, e = .returned (alw gS gL) ∧ Got n h a0 wS wL gS gL ∧ Fr (· = P) w w' ∧ ∃ f', PM w' P f' ∧ PartAt f' h (a0 h) := by
  have hlt := hP.lt
  have hSl := World.block_lt_of_cell? w _ hS
  refine (callsIn_wide (n := 3)).1 ?_
  refine callsIn_of_wp_marks Yba.func17 rfl trivial ?_ rfl
  simp only [Yba.ntmps17, List.size_toArray, List.length_cons, List.length_nil, Nat.reduceAdd, Nat.reduceSub, Array.replicate_succ, Array.replicate_zero, List.push_toArray, List.append_toArray, List.nil_append, List.cons_append]
  gi_wp2_with (refine ⟨trivial, ?_⟩; gi_at_call 22; refine (callsIn_wide.2 (others_any _ _ _)).mono ?_; rintro e w' ⟨rfl, rfl⟩)
  obtain ⟨W0, hW0⟩ : ∃ W0, (((((w.alloc (Obj.cells #[Value.int IntKind.i64 wS, Value.int IntKind.i64 wL] 47)).alloc (Obj.cells #[Value.int IntKind.i64 0, Value.int IntKind.i64 0] 47)).alloc (Obj.cells #[Value.int IntKind.i64 wS, Value.int IntKind.i64 wL] 47)).alloc (Obj.cells #[Value.pointer (some { block := S, off := 0 })] 23)).alloc (Obj.cells #[Value.pointer (some { block := P, off := h * 78 })] 40)) = W0 := ⟨_, rfl⟩
  have Z : W0.heap.size = w.heap.size + 1 + 1 + 1 + 1 + 1 := by rw [← hW0]; simp
  have Z1 : PM W0 w.heap.size (box2 (.int .i64 wS) (.int .i64 wL)) := by rw [← hW0]; exact ((((PM.box2 w _ _ _).alloc _).alloc _).alloc _).alloc _
  have Z2 : PM W0 (w.heap.size + 1) (box2 (.int .i64 0) (.int .i64 0)) := by
    rw [← hW0]
    have := PM.box2 (w.alloc (Obj.cells #[Value.int IntKind.i64 wS, Value.int IntKind.i64 wL] 47)) (.int .i64 0) (.int .i64 0) 47
    rw [World.size_alloc] at this
    exact ((this.alloc _).alloc _).alloc _
  have Z3 : PM W0 (w.heap.size + 2) (box2 (.int .i64 wS) (.int .i64 wL)) := by
    rw [← hW0]
    have := PM.box2 ((w.alloc (Obj.cells #[Value.int IntKind.i64 wS, Value.int IntKind.i64 wL] 47)).alloc (Obj.cells #[Value.int IntKind.i64 0, Value.int IntKind.i64 0] 47)) (.int .i64 wS) (.int .i64 wL) 47
    rw [World.size_alloc, World.size_alloc] at this
    exact (this.alloc _).alloc _
  have ZP : PM W0 P f := by rw [← hW0]; exact ((((hP.alloc _).alloc _).alloc _).alloc _).alloc _
  have ZF : Fr (· = P) w W0 := by rw [← hW0]; exact (((((Fr.refl _ w).alloc _).alloc _).alloc _).alloc _).alloc _
  have ZS : W0.cell? ⟨S, 0, none⟩ = some (.slice (some ⟨P, 0, none⟩) n n) := (ZF.cell hSl hSP).trans hS
  have Zs : W0.cell? ⟨w.heap.size + 3, 0, none⟩ = some (.pointer (some ⟨S, 0, none⟩)) := by
    rw [← hW0]
    have := PM.new (((w.alloc (Obj.cells #[Value.int IntKind.i64 wS, Value.int IntKind.i64 wL] 47)).alloc (Obj.cells #[Value.int IntKind.i64 0, Value.int IntKind.i64 0] 47)).alloc (Obj.cells #[Value.int IntKind.i64 wS, Value.int IntKind.i64 wL] 47)) #[Value.pointer (some { block := S, off := 0 })] 23
    rw [World.size_alloc, World.size_alloc, World.size_alloc] at this
    exact (this.alloc _).cell 0
  have Zh : W0.cell? ⟨w.heap.size + 4, 0, none⟩ = some (.pointer (some ⟨P, h * 78, none⟩)) := by
    rw [← hW0]
    have := PM.new ((((w.alloc (Obj.cells #[Value.int IntKind.i64 wS, Value.int IntKind.i64 wL] 47)).alloc (Obj.cells #[Value.int IntKind.i64 0, Value.int IntKind.i64 0] 47)).alloc (Obj.cells #[Value.int IntKind.i64 wS, Value.int IntKind.i64 wL] 47)).alloc (Obj.cells #[Value.pointer (some { block := S, off := 0 })] 23)) #[Value.pointer (some { block := P, off := h * 78 })] 40
    rw [World.size_alloc, World.size_alloc, World.size_alloc, World.size_alloc] at this
    exact this.cell 0
  rw [hW0]
  clear hW0
  have hstops := others1_stops 2 (by decide) (w.heap.size + 3) (w.heap.size + 4) S P n h (fun b => b = w.heap.size + 3 ∨ b = w.heap.size + 4 ∨ b = S) W0 (by omega) hh (fun b hb => by have h9 : S < w.heap.size := hSl; omega) (.inl rfl) (.inr (.inl rfl)) (.inr (.inr rfl)) Zs Zh ZS (by obtain ⟨c, t, hc, _⟩ := ZP; exact ⟨c, t, hc⟩)
  have hstart : GJ w P n h a0 wS wL w.heap.size wS wL [] W0 := ⟨f, a0, ZP, hp, Inv.start hf h1.1 h2.1, Z1, Z2, Z3, by omega, ZF⟩
  refine wpIn_rangeFunc_ownG rfl (by decide) (gf := 28) (lb := #[.pointer (some ⟨w.heap.size + 3, 0, none⟩), .pointer (some ⟨w.heap.size + 4, 0, none⟩)]) rfl trivial (enters_of Yba.func28 (by kernel_rfl) rfl) hstops KpP.trans (KpP.book (fun b hb => by have h9 : S < w.heap.size := hSl; omega) (by omega)) (Below.refl _ _) (fun _ => rfl)
    (fun pre W => ∃ lS lL, GJ w P n h a0 wS wL w.heap.size lS lL pre W) (fun c pre W => c = .exit 0 ∧ GJ w P n h a0 wS wL w.heap.size 0 0 pre W)
    (fun s A B row hs hg hr => by obtain ⟨lS, lL, hs⟩ := hs; exact ⟨lS, lL, GJ.own _ (by omega) lS lL s A B row hs hg hr⟩)
    (fun c s A B row hs hg hr => ⟨hs.1, GJ.own _ (by omega) 0 0 s A B row hs.2 hg hr⟩)
    ⟨wS, wL, hstart⟩
    (fun x => { tmps := #[.pointer (some ⟨S, 0, none⟩), .pointer (some ⟨P, h * 78, none⟩), alw wS wL, undef, undef, .pointer (some ⟨w.heap.size, 0, none⟩), .pointer (some ⟨w.heap.size + 1, 0, none⟩), .pointer (some ⟨w.heap.size + 1 + 1, 0, none⟩), .pointer (some ⟨P, x.1 * 78, none⟩), alw wS wL, .pointer (some ⟨S, 0, none⟩), .pointer (some ⟨P, h * 78, none⟩), .func (.func 28) #[] #[.pointer (some ⟨w.heap.size + 3, 0, none⟩), .pointer (some ⟨w.heap.size + 4, 0, none⟩)], .pointer (some ⟨P, x.1 * 78, none⟩), undef, undef, undef, undef, undef, undef, undef, undef, undef, undef, undef], defers := [] }) ?assign ?body ?done ?stop
  case assign =>
    intro l x W K hK
    gi_wp2
    exact hK
  case body =>
    rintro l pre ⟨x, hx1, hx2⟩ W ⟨lS, lL, f', a', g1, g2, g3, g4, g5, g6, g8, g7⟩ hlen
    have hmx : Yba.prog.follows .mixedOrders = true := by kernel_rfl
    have g6' : PM W (w.heap.size + 1 + 1) (box2 (.int .i64 lS) (.int .i64 lL)) := g6
    have i1 := g3.hS
    have i2 := g3.hL
    have fx := g3.fit x hx1
    have m0 : W.cell? ⟨w.heap.size + 1 + 1, 0, none⟩ = some (.int .i64 lS) := g6'.cell 0
    have m1 : W.cell? ⟨w.heap.size + 1 + 1, 1, none⟩ = some (.int .i64 lL) := g6'.cell 1
    have hwl : w.heap.size ≤ W.heap.size := g7.size
    have hst := g3.step x hx1 hx2
    have hpt := PartAt.give g2 x lS lL
    have hsub : ((a' x).len : Int) ≤ 1000 := by have := fx.len; omega
    obtain ⟨cS, hcS⟩ : ∃ c, min lS ((a' x).aS - max ((a' x).len : Int) 1) = c := ⟨_, rfl⟩
    obtain ⟨cL, hcL⟩ : ∃ c, min lL ((a' x).aL - (a' x).L) = c := ⟨_, rfl⟩
    have r1 : 0 ≤ cS ∧ cS ≤ 1000 := by have := fx.S; omega
    have r2 : 0 ≤ cL ∧ cL ≤ 1000 := by have := fx.LA; omega
    have hced := cede_any P (x * 78) f' (a' x).q (a' x).len (a' x).cap (a' x).L (a' x).aS (a' x).aL lS lL W.drew g1.drew (g2 x hx1) (by omega) (by omega) ⟨fx.L0, by have := fx.LA; have := fx.A; omega⟩ ⟨by have := fx.S; omega, fx.S1⟩ ⟨by have := fx.L0; have := fx.LA; omega, fx.A⟩ (by have := fx.len; omega)
    rw [hcS, hcL] at hced hst hpt
    have HG : Hid (PM W P f' ∧ PM W w.heap.size (box2 (.int .i64 wS) (.int .i64 wL)) ∧ PM W (w.heap.size + 1) (box2 (.int .i64 0) (.int .i64 0)) ∧ PM W (w.heap.size + 1 + 1) (box2 (.int .i64 lS) (.int .i64 lL)) ∧ Fr (· = P) w W ∧ w.heap.size + 5 ≤ W.heap.size) := ⟨g1, g4, g5, g6', g7, g8⟩
    have HI : Hid (Inv n h a0 (updP a' x (give (a' x) lS lL)) wS wL (lS - cS) (lL - cL) (List.map (·.1) pre ++ [x]) ∧ ∀ i, i < n → PartAt (put1 (put1 f' (x * 78 + 4) (.int .i64 ((a' x).aS - cS))) (x * 78 + 5) (.int .i64 ((a' x).aL - cL))) i (updP a' x (give (a' x) lS lL) i)) := ⟨hst, hpt⟩
    clear g1 g2 g3 g4 g5 g6 g6' g7 g8 hst hpt fx hcS hcL hstart hstops Z Z1 Z2 Z3 ZP ZF ZS Zs Zh hP hp hf
    gi_wp2
    refine wpIn_cutR (A := ?A) (fun w' => Fr (fun k => k = P ∨ k = w.heap.size + 1 + 1) W w' ∧ PM w' P (put1 (put1 f' (x * 78 + 4) (.int .i64 ((a' x).aS - cS))) (x * 78 + 5) (.int .i64 ((a' x).aL - cL))) ∧ PM w' (w.heap.size + 1 + 1) (box2 (.int .i64 (lS - cS)) (.int .i64 (lL - cL)))) ?reg ?rest
    case reg =>
      gi_region_with_o (first
        | (refine ⟨trivial, ?_⟩; gi_at_call 24; refine (CallsIn.inRound l (callsIn_wide.2 hced)).mono ?_; rintro e W1 ⟨rfl, c1, c2⟩; have c3 : PM W1 (w.heap.size + 1 + 1) (box2 (.int .i64 lS) (.int .i64 lL)) := (HG.out.2.2.2.1.drew).fr c1 (by omega); have n0 : W1.cell? ⟨w.heap.size + 1 + 1, 0, none⟩ = some (.int .i64 lS) := c3.cell 0; have n1 : W1.cell? ⟨w.heap.size + 1 + 1, 1, none⟩ = some (.int .i64 lL) := c3.cell 1)
        | (refine ⟨trivial, ?_⟩; gi_at_call 23; refine (CallsIn.inRound l (callsIn_wide.2 (minus_any lS lL cS cL W1))).mono ?_; rintro e W2 ⟨rfl, d1⟩; have d3 := c3.fr (S := fun _ => False) (Fr.of_below d1) (fun h => h); have d2 := c2.fr (S := fun _ => False) (Fr.of_below d1) (fun h => h); have q0 : W2.cell? ⟨w.heap.size + 1 + 1, 0, none⟩ = some (.int .i64 lS) := d3.cell 0; have q1 : W2.cell? ⟨w.heap.size + 1 + 1, 1, none⟩ = some (.int .i64 lL) := d3.cell 1; have z0 := d3.free 0; have z1 := d3.free 1))
      all_goals simp only [show wrap64 (lS - cS) = lS - cS from IntWalk.wrap64_in _ (by omega), show wrap64 (lL - cL) = lL - cL from IntWalk.wrap64_in _ (by omega)]
      all_goals refine AtEndR.mk _ ?_
      all_goals exact ⟨((((Fr.of_drew c1).mono (fun _ _ e => .inl e)).trans (Fr.of_below d1)).setCell _ _ (.inl (.inr rfl))).setCell _ _ (.inl (.inr rfl)), (d2.other _ _ (by simp; omega)).other _ _ (by simp; omega), ((d3.set 0 _ rfl).set 1 _ rfl).congr (fun k => by match k with | 0 => rfl | 1 => rfl | k + 2 => rfl)⟩
    rintro W3 ⟨e1, e2, e3⟩
    clear hced m0 m1
    obtain ⟨dS, hdS⟩ : ∃ d, lS - cS = d := ⟨_, rfl⟩
    obtain ⟨dL, hdL⟩ : ∃ d, lL - cL = d := ⟨_, rfl⟩
    simp only [hdS, hdL]
    have HJ : Hid (GJ w P n h a0 wS wL w.heap.size dS dL (pre ++ [⟨x, hx1, hx2⟩]) W3 ∧ KeepsFrom W0.heap.size W W3 ∧ KpP (fun b => b = w.heap.size + 3 ∨ b = w.heap.size + 4 ∨ b = S) P W W3) := by
      obtain ⟨u1, u2, u3, u4, u5, u6⟩ := HG.out
      have h9 : S < w.heap.size := hSl
      have hsub9 := e1.size
      refine ⟨⟨_, _, e2, HI.out.2, by have := HI.out.1; rw [hdS, hdL] at this; simpa using this, u2.fr e1 (by omega), u3.fr e1 (by omega), by rw [← hdS, ← hdL]; exact e3, by omega, ?_⟩, ?_, ?_, ?_⟩
      · exact ⟨e1.os.trans u5.os, e1.tape.trans u5.tape, e1.output.trans u5.output, Nat.le_trans u5.size e1.size, fun k hk hs => (e1.block k (Nat.lt_of_lt_of_le hk u5.size) (by rintro (h | h); exact hs h; omega)).trans (u5.block k hk hs)⟩
      · refine (Fr.keeps e1 ?_).from _
        rintro k (rfl | rfl)
        · obtain ⟨c, t, hc, _⟩ := e2
          obtain ⟨c', t', hc', _⟩ := u1
          exact ⟨c, t, hc, c', t', hc'⟩
        · obtain ⟨c, t, hc, _⟩ := e3
          obtain ⟨c', t', hc', _⟩ := u4
          exact ⟨c, t, hc, c', t', hc'⟩
      · intro b hb
        exact e1.block b (by omega) (by omega)
      · intro c t hc
        obtain ⟨c', t', hc', _⟩ := e2
        exact ⟨c', t', hc'⟩
    rw [hdS, hdL] at e3
    have y0 : W3.cell? ⟨w.heap.size + 1 + 1, 0, none⟩ = some (.int .i64 dS) := e3.cell 0
    have y1 : W3.cell? ⟨w.heap.size + 1 + 1, 1, none⟩ = some (.int .i64 dL) := e3.cell 1
    clear e1 e2 e3 HG HI hdS hdL
    by_cases hz : dS = 0 ∧ dL = 0
    · obtain ⟨rfl, rfl⟩ := hz
      gi_wp2
      exact ⟨HJ.out.2.1, rfl, HJ.out.1⟩
    · have hz' : ¬ dS = 0 ∨ (dS = 0 ∧ ¬ dL = 0) := by omega
      rcases hz' with hz1 | ⟨hz1, hz2⟩
      · gi_wp2
        exact ⟨HJ.out.2.1, HJ.out.2.2, _, _, HJ.out.1⟩
      · subst hz1
        gi_wp2
        exact ⟨HJ.out.2.1, HJ.out.2.2, _, _, HJ.out.1⟩
  case done =>
    rintro D xs W hD rfl ⟨lS, lL, f', a', g1, g2, g3, g4, g5, g6, g8, g7⟩ hK
    have hgot : Got n h a0 wS wL (wS - lS) (wL - lL) := g3.done (.inr (fun i hi hn => oth_all n h i hi hn))
    have k0 : W.cell? ⟨w.heap.size, 0, none⟩ = some (.int .i64 wS) := g4.cell 0
    have k1 : W.cell? ⟨w.heap.size, 1, none⟩ = some (.int .i64 wL) := g4.cell 1
    have k2 : W.cell? ⟨w.heap.size + 1 + 1, 0, none⟩ = some (.int .i64 lS) := g6.cell 0
    have k3 : W.cell? ⟨w.heap.size + 1 + 1, 1, none⟩ = some (.int .i64 lL) := g6.cell 1
    have HG : Hid (PM W P f' ∧ (∀ i, i < n → PartAt f' i (a' i)) ∧ a' h = a0 h ∧ PM W (w.heap.size + 1) (box2 (.int .i64 0) (.int .i64 0)) ∧ w.heap.size + 5 ≤ W.heap.size ∧ Fr (· = P) w W ∧ W.heap[D]? = some (.deferred (some []))) := ⟨g1, g2, g3.home, g5, g8, g7, hK⟩
    have i1 := g3.hS
    have i2 := g3.hL
    have hmn := minus_any wS wL lS lL W
    clear g1 g2 g3 g4 g5 g6 g7 g8 hK hstart hstops Z1 Z2 Z3 ZP ZF ZS Zs Zh hP hp hf
    gi_wp2_with (refine ⟨trivial, ?_⟩; gi_at_call 23; refine (callsIn_wide.2 hmn).mono ?_; rintro e W1 ⟨rfl, d1⟩; have d5 := HG.out.2.2.2.1.fr (S := fun _ => False) (Fr.of_below d1) (fun h => h); have z0 : W1.cell? ⟨w.heap.size + 1, 0, none⟩ = some (.int .i64 0) := d5.cell 0; have z1 : W1.cell? ⟨w.heap.size + 1, 1, none⟩ = some (.int .i64 0) := d5.cell 1; have x0 := d5.free 0; have x1 := d5.free 1)
    have ev1 : wrap64 (wS - lS) = wS - lS := IntWalk.wrap64_in _ (by omega)
    have ev2 : wrap64 (wL - lL) = wL - lL := IntWalk.wrap64_in _ (by omega)
    rw [ev1, ev2]
    obtain ⟨vS, hvS⟩ : ∃ v : Int, wS - lS = v := ⟨_, rfl⟩
    obtain ⟨vL, hvL⟩ : ∃ v : Int, wL - lL = v := ⟨_, rfl⟩
    rw [hvS, hvL]
    obtain ⟨t1, t2, t3, t4, t5, t6, t7⟩ := HG.out
    have hDl : D < W.heap.size := (Array.getElem?_eq_some_iff.1 t7).1
    obtain ⟨W2, hW2⟩ : ∃ W2, (W1.setCell ⟨w.heap.size + 1, 0, none⟩ (.int .i64 vS)).setCell ⟨w.heap.size + 1, 1, none⟩ (.int .i64 vL) = W2 := ⟨_, rfl⟩
    have Q2 : PM W2 (w.heap.size + 1) (put1 (put1 (box2 (.int .i64 0) (.int .i64 0)) 0 (.int .i64 vS)) 1 (.int .i64 vL)) := by rw [← hW2]; exact (d5.set 0 _ rfl).set 1 _ rfl
    have Q1 : PM W2 P f' := by rw [← hW2]; exact ((t1.fr (S := fun _ => False) (Fr.of_below d1) (fun h => h)).other _ _ (by simp; omega)).other _ _ (by simp; omega)
    have Q3 : Fr (· = P) w W2 := by rw [← hW2]; exact ((t6.trans (Fr.of_below d1)).setCell _ _ (.inr (by simp))).setCell _ _ (.inr (by simp))
    have Q4 : W2.heap[D]? = some (.deferred (some [])) := by
      rw [← hW2]
      exact (Below.heap_setCell _ _ _ _ (by simp; omega)).trans ((Below.heap_setCell _ _ _ _ (by simp; omega)).trans ((d1.block D hDl).trans t7))
    rw [hW2]
    refine ⟨by simp, .inl ⟨_, _, rfl, run_takeDeferred Q4, ?_⟩⟩
    have Q5 := Q2.putObj D (.deferred none) (by omega)
    have c0 : (W2.putObj D (.deferred none)).cell? ⟨w.heap.size + 1, 0, none⟩ = some (.int .i64 vS) := Q5.cell 0
    have c1 : (W2.putObj D (.deferred none)).cell? ⟨w.heap.size + 1, 1, none⟩ = some (.int .i64 vL) := Q5.cell 1
    refine ⟨alw vS vL, by simp [results, Yba.results17, go_sem, c0, c1], vS, vL, rfl, ?_, Q3.putObj D _ (by omega), f', Q1.putObj D _ (by omega), ?_⟩
    · rw [← hvS, ← hvL]; simpa using hgot
    · have := t2 h hh
      rw [t3] at this
      exact this
  case stop =>
    rintro D c pre W hD _ ⟨rfl, f', a', g1, g2, g3, g4, g5, g6, g8, g7⟩ hK
    have hgot : Got n h a0 wS wL (wS - 0) (wL - 0) := g3.done (.inl ⟨rfl, rfl⟩)
    have k0 : W.cell? ⟨w.heap.size, 0, none⟩ = some (.int .i64 wS) := g4.cell 0
    have k1 : W.cell? ⟨w.heap.size, 1, none⟩ = some (.int .i64 wL) := g4.cell 1
    have k2 : W.cell? ⟨w.heap.size + 1 + 1, 0, none⟩ = some (.int .i64 0) := g6.cell 0
    have k3 : W.cell? ⟨w.heap.size + 1 + 1, 1, none⟩ = some (.int .i64 0) := g6.cell 1
    have HG : Hid (PM W P f' ∧ (∀ i, i < n → PartAt f' i (a' i)) ∧ a' h = a0 h ∧ PM W (w.heap.size + 1) (box2 (.int .i64 0) (.int .i64 0)) ∧ w.heap.size + 5 ≤ W.heap.size ∧ Fr (· = P) w W ∧ W.heap[D]? = some (.deferred (some []))) := ⟨g1, g2, g3.home, g5, g8, g7, hK⟩
    have i1 := g3.hS
    have i2 := g3.hL
    have hmn := minus_any wS wL 0 0 W
    clear g1 g2 g3 g4 g5 g6 g7 g8 hK hstart hstops Z1 Z2 Z3 ZP ZF ZS Zs Zh hP hp hf
    gi_wp2_with (refine ⟨trivial, ?_⟩; gi_at_call 23; refine (callsIn_wide.2 hmn).mono ?_; rintro e W1 ⟨rfl, d1⟩; have d5 := HG.out.2.2.2.1.fr (S := fun _ => False) (Fr.of_below d1) (fun h => h); have z0 : W1.cell? ⟨w.heap.size + 1, 0, none⟩ = some (.int .i64 0) := d5.cell 0; have z1 : W1.cell? ⟨w.heap.size + 1, 1, none⟩ = some (.int .i64 0) := d5.cell 1; have x0 := d5.free 0; have x1 := d5.free 1)
    have ev1 : wrap64 (wS) = wS := IntWalk.wrap64_in _ (by omega)
    have ev2 : wrap64 (wL) = wL := IntWalk.wrap64_in _ (by omega)
    rw [ev1, ev2]
    obtain ⟨vS, hvS⟩ : ∃ v : Int, wS = v := ⟨_, rfl⟩
    obtain ⟨vL, hvL⟩ : ∃ v : Int, wL = v := ⟨_, rfl⟩
    rw [hvS, hvL]
    obtain ⟨t1, t2, t3, t4, t5, t6, t7⟩ := HG.out
    have hDl : D < W.heap.size := (Array.getElem?_eq_some_iff.1 t7).1
    obtain ⟨W2, hW2⟩ : ∃ W2, (W1.setCell ⟨w.heap.size + 1, 0, none⟩ (.int .i64 vS)).setCell ⟨w.heap.size + 1, 1, none⟩ (.int .i64 vL) = W2 := ⟨_, rfl⟩
    have Q2 : PM W2 (w.heap.size + 1) (put1 (put1 (box2 (.int .i64 0) (.int .i64 0)) 0 (.int .i64 vS)) 1 (.int .i64 vL)) := by rw [← hW2]; exact (d5.set 0 _ rfl).set 1 _ rfl
    have Q1 : PM W2 P f' := by rw [← hW2]; exact ((t1.fr (S := fun _ => False) (Fr.of_below d1) (fun h => h)).other _ _ (by simp; omega)).other _ _ (by simp; omega)
    have Q3 : Fr (· = P) w W2 := by rw [← hW2]; exact ((t6.trans (Fr.of_below d1)).setCell _ _ (.inr (by simp))).setCell _ _ (.inr (by simp))
    have Q4 : W2.heap[D]? = some (.deferred (some [])) := by
      rw [← hW2]
      exact (Below.heap_setCell _ _ _ _ (by simp; omega)).trans ((Below.heap_setCell _ _ _ _ (by simp; omega)).trans ((d1.block D hDl).trans t7))
    rw [hW2]
    refine ⟨by simp, .inl ⟨_, _, rfl, run_takeDeferred Q4, ?_⟩⟩
    have Q5 := Q2.putObj D (.deferred none) (by omega)
    have c0 : (W2.putObj D (.deferred none)).cell? ⟨w.heap.size + 1, 0, none⟩ = some (.int .i64 vS) := Q5.cell 0
    have c1 : (W2.putObj D (.deferred none)).cell? ⟨w.heap.size + 1, 1, none⟩ = some (.int .i64 vL) := Q5.cell 1
    refine ⟨alw vS vL, by simp [results, Yba.results17, go_sem, c0, c1], vS, vL, rfl, ?_, Q3.putObj D _ (by omega), f', Q1.putObj D _ (by omega), ?_⟩
    · rw [← hvS, ← hvL]; simpa using hgot
    · have := t2 h hh
      rw [t3] at this
      exact this
end Go.Proofs.YbulkanmgRR
