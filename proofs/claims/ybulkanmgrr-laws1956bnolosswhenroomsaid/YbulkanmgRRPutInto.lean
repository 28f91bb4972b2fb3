import Derived.Test.YbulkanmgRRGather
import Derived.Test.YbulkanmgRRKeep
import Derived.Test.YbulkanmgRRPut
namespace Go.Proofs.YbulkanmgRR
set_option linter.unusedVariables false
set_option linter.unusedSimpArgs false
open Go.RowKit

/-- The home's sets: a row of its own, each of a known count. -/
structure Row (w : World) (P base : Nat) (p : Pt) (xs : List Value) : Prop where
  own : w.ownsRow base 51 1 (.slice p.q p.len p.cap) p.len xs
  el : ∀ x, x ∈ xs → ∃ (b0 : Nat) (c0 : Int), x = .pointer (some ⟨b0, 0, none⟩) ∧ w.cell? ⟨b0, 1, none⟩ = some (.int .i64 c0) ∧ 0 ≤ c0 ∧ c0 ≤ 1000 ∧ b0 ≠ P

theorem Row.fr {w w' : World} {P base : Nat} {p : Pt} {xs : List Value} (h : Row w P base p xs) (hf : Fr (· = P) w w') (hb : P < base) : Row w' P base p xs := by
  refine ⟨own_fr h.own hf (fun k hk e => by have := (h.own.lt k hk).1; omega), fun x hx => ?_⟩
  obtain ⟨b0, c0, r1, r2, r3, r4, r5⟩ := h.el x hx
  exact ⟨b0, c0, r1, (hf.cell (World.block_lt_of_cell? w _ r2) r5).trans r2, r3, r4, r5⟩

set_option maxRecDepth 10000 in
set_option maxHeartbeats 1600000 in
/-- putInto. -/
theorem putInto_any (P S n h sb c : Nat) (f : Nat → Option Value) (a0 : Nat → Pt) (base : Nat) (xs : List Value) (w : World) (hP : PM w P f) (hp : ∀ i, i < n → PartAt f i (a0 i)) (hf : ∀ i, i < n → Fit (a0 i)) (hh : h < n) (hn : n ≤ 8)
    (hS : w.cell? ⟨S, 0, none⟩ = some (.slice (some ⟨P, 0, none⟩) n n)) (hSP : S ≠ P) (hset : SetAt w sb c) (hc : c ≤ 1000) (hrow : Row w P base (a0 h) xs) (hb : P < base) (hbs : base ≤ w.heap.size) (hsb : base ≤ sb)
    (hsq : ∀ k, (Value.slice (a0 h).q (a0 h).len (a0 h).cap).ownBlock = some k → k < sb) :
    Calls Yba.prog 8 #[.pointer (some ⟨S, 0, none⟩), .pointer (some ⟨P, h * 78, none⟩), .pointer (some ⟨sb, 0, none⟩)] w fun e w' => e = .returned (.tuple #[]) ∧ Below P w w' ∧
      ∃ f' q' m cap' c', PM w' P f' ∧ f' (h * 78 + 2) = some (.slice q' m cap') ∧ w'.cell? ⟨sb, 1, none⟩ = some (.int .i64 c') ∧
        (1 ≤ (a0 h).aS - (a0 h).len + sumO h (fun i => roomS (a0 i)) n → m = (a0 h).len + 1) ∧ ((c : Int) ≤ (a0 h).aL - (a0 h).L + sumO h (fun i => roomL (a0 i)) n → c' = c) := by
  have hlt := hP.lt
  have fh := hf h hh
  have x1 := fh.len
  have x2 := fh.L0
  have x3 := fh.LA
  have x4 := fh.A
  have x5 := fh.S
  have x6 := fh.S1
  obtain ⟨fs, T1, T2, T3⟩ := hset.hd
  have s1 := (T1.cell 1).trans T3
  have hsl := World.block_lt_of_cell? w _ s1
  have hput := put_any P (h * 78) sb f (a0 h).q (a0 h).len (a0 h).cap (a0 h).L (a0 h).aS (a0 h).aL c base xs w hP (hp h hh) s1 (by omega) hrow.own hb hbs x1 (by omega) (by omega) (by omega) (by omega)
  obtain ⟨lS, hlS⟩ : ∃ l, max (((a0 h).len : Int) + 1 - (a0 h).aS) 0 = l := ⟨_, rfl⟩
  obtain ⟨lL, hlL⟩ : ∃ l, max ((a0 h).L + (c : Int) - (a0 h).aL) 0 = l := ⟨_, rfl⟩
  rw [hlS, hlL] at hput
  have r1 : 0 ≤ lS ∧ lS ≤ 1000 := by omega
  have r2 : 0 ≤ lL ∧ lL ≤ 1000 := by omega
  have HH : Hid (PM w P f ∧ (∀ i, i < n → PartAt f i (a0 i)) ∧ (∀ i, i < n → Fit (a0 i)) ∧ w.cell? ⟨S, 0, none⟩ = some (.slice (some ⟨P, 0, none⟩) n n) ∧ SetAt w sb c ∧ Row w P base (a0 h) xs ∧ (∀ k, (Value.slice (a0 h).q (a0 h).len (a0 h).cap).ownBlock = some k → k < sb)) := ⟨hP, hp, hf, hS, hset, hrow, hsq⟩
  clear hP hp hf hS hset hrow hsq fh T1 T2 T3
  go_enter Yba.func8, Yba.ntmps8
  go_wp2_with fail
  refine hput.mono ?_
  clear hput
  rintro e W1 ⟨rfl, (⟨z1, z2, F1, g, cap', J1⟩ | ⟨hz, F1, J1⟩)⟩
  · have HJ : Hid (PM W1 P (put1 (put1 f (h * 78 + 3) (.int .i64 ((a0 h).L + c))) (h * 78 + 2) (.slice (some ⟨g, 0, none⟩) ((a0 h).len + 1) cap')) ∧ Fr (fun k => k = P ∨ (Value.slice (a0 h).q (a0 h).len (a0 h).cap).ownBlock = some k) w W1) := ⟨J1, F1⟩
    clear J1 F1
    subst z1 z2
    have HL : Hid (max (((a0 h).len : Int) + 1 - (a0 h).aS) 0 = 0 ∧ max ((a0 h).L + (c : Int) - (a0 h).aL) 0 = 0) := ⟨hlS, hlL⟩
    clear hlS hlL
    go_wp2_with fail
    refine bodyPost_ret (results_none rfl _ _ _) rfl ?_
    have F1 := HJ.out.2.alloc (Obj.cells #[Value.int IntKind.i64 0, Value.int IntKind.i64 0] 47)
    refine ⟨rfl, F1.below P (by omega) (fun k hk e => ?_), _, some ⟨g, 0, none⟩, (a0 h).len + 1, cap', c, HJ.out.1.alloc _, put1_same _ _ _, (F1.cell (p := ⟨sb, 1, none⟩) hsl (fun e => ?_)).trans s1, fun _ => rfl, fun _ => rfl⟩
    · rcases e with e | e
      · omega
      · have := (HH.out.2.2.2.2.2.1.own.lt k e).1; omega
    · rcases e with e | e
      · have e' : sb = P := e
        omega
      · have := HH.out.2.2.2.2.2.2 sb e; omega
  · have F1' : Fr (· = P) w (W1.alloc (Obj.cells #[Value.int IntKind.i64 lS, Value.int IntKind.i64 lL] 47)) := F1.alloc _
    have hz' : ¬ lS = 0 ∨ (lS = 0 ∧ ¬ lL = 0) := by omega
    rcases hz' with hz1 | ⟨hz1, hz2⟩
    · clear hz
      go_wp2_with fail
      refine (gather_any P S n h f a0 lS lL _ (J1.alloc _) HH.out.2.1 HH.out.2.2.1 hh hn ((F1'.cell (World.block_lt_of_cell? w _ HH.out.2.2.2.1) hSP).trans HH.out.2.2.2.1) hSP (by omega) (by omega)).mono ?_
      rintro e W2 ⟨gS, gL, rfl, hg, F2, f2, J2, Jp⟩
      have F3 : Fr (· = P) w W2 := F1'.trans F2
      have R3 := HH.out.2.2.2.2.2.1.fr F3 hb
      have u1 := hg.hS
      have u2 := hg.hL
      have u3 := hg.eS
      have u4 := hg.eL
      have hkp := keep_any P (h * 78) sb c f2 (a0 h).q (a0 h).len (a0 h).cap (a0 h).L (a0 h).aS (a0 h).aL gS gL base xs W2 J2 Jp (HH.out.2.2.2.2.1.fr F3 (fun j _ => by omega)) hsb HH.out.2.2.2.2.2.2 R3.own R3.el hb (Nat.le_trans hbs F3.size) x1 hc ⟨x2, x3⟩ (by omega) x4 (by omega) (by omega)
      have HU : Hid (Got n h a0 lS lL gS gL) := hg
      clear hg u3 u4
      go_wp2_with fail
      refine hkp.mono ?_
      rintro e W3 ⟨rfl, B3, f', q', m, cap', c', k1, k2, k3, k4, k5⟩
      clear hkp
      go_wp2_with fail
      go_end0
      have u3 := HU.out.eS
      have u4 := HU.out.eL
      refine ⟨rfl, (F3.below P (by omega) (fun k hk => by omega)).trans B3, f', q', m, cap', c', k1, k2, k3, fun hq => k4 ?_, fun hq => k5 ?_⟩
      · omega
      · omega
    · subst hz1
      clear hz
      go_wp2_with fail
      refine (gather_any P S n h f a0 0 lL _ (J1.alloc _) HH.out.2.1 HH.out.2.2.1 hh hn ((F1'.cell (World.block_lt_of_cell? w _ HH.out.2.2.2.1) hSP).trans HH.out.2.2.2.1) hSP (by omega) (by omega)).mono ?_
      rintro e W2 ⟨gS, gL, rfl, hg, F2, f2, J2, Jp⟩
      have F3 : Fr (· = P) w W2 := F1'.trans F2
      have R3 := HH.out.2.2.2.2.2.1.fr F3 hb
      have u1 := hg.hS
      have u2 := hg.hL
      have u3 := hg.eS
      have u4 := hg.eL
      have hkp := keep_any P (h * 78) sb c f2 (a0 h).q (a0 h).len (a0 h).cap (a0 h).L (a0 h).aS (a0 h).aL gS gL base xs W2 J2 Jp (HH.out.2.2.2.2.1.fr F3 (fun j _ => by omega)) hsb HH.out.2.2.2.2.2.2 R3.own R3.el hb (Nat.le_trans hbs F3.size) x1 hc ⟨x2, x3⟩ (by omega) x4 (by omega) (by omega)
      have HU : Hid (Got n h a0 0 lL gS gL) := hg
      clear hg u3 u4
      go_wp2_with fail
      refine hkp.mono ?_
      rintro e W3 ⟨rfl, B3, f', q', m, cap', c', k1, k2, k3, k4, k5⟩
      clear hkp
      go_wp2_with fail
      go_end0
      have u3 := HU.out.eS
      have u4 := HU.out.eL
      refine ⟨rfl, (F3.below P (by omega) (fun k hk => by omega)).trans B3, f', q', m, cap', c', k1, k2, k3, fun hq => k4 ?_, fun hq => k5 ?_⟩
      · omega
      · omega
end Go.Proofs.YbulkanmgRR
