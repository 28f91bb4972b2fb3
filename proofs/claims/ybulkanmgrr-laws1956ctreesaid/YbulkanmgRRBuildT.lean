import Derived.Test.YbulkanmgRRFocus
import Derived.Deep.RegionWith
namespace Go.Proofs.YbulkanmgRR
set_option linter.unusedVariables false
set_option linter.unusedSimpArgs false
open Go.RowKit Go.Deep

/-- What 'build' leaves over the transactions from lo to hi. -/
structure Grew (w w' : World) (B n T : Nat) (f f' : Nat → Nat → Option Nat) (wt : Nat → Option Addr) (g : Nat → Option Nat) (wait : Int) (lo hi : Nat) (up : Option Nat) (t : BT Unit) : Prop where
  mem : Mem w' B n T f' wt g wait
  tree : IsT f' t up
  nodes : io t = List.range' lo (hi - lo)
  other : ∀ i, (i < lo ∨ hi ≤ i) → ∀ o, f' i o = f i o
  links : ∀ i, f' i 14 = f i 14 ∧ f' i 15 = f i 15
  bel : Below B w w'

theorem grew_join {w wa wb : World} {B n T : Nat} {f fa fb : Nat → Nat → Option Nat} {wt : Nat → Option Addr} {g : Nat → Option Nat} {wait : Int} {lo mid hi : Nat} {up : Option Nat} {ta tb : BT Unit} (h1 : lo ≤ mid) (h2 : mid < hi)
    (ga : Grew ((w.setCell ⟨bk B mid, 22, none⟩ (.pointer (ad B up))).drewN 1) wa B n T (upd f mid 22 up) fa wt g wait lo mid (some mid) ta)
    (gb : Grew ((wa.setCell ⟨bk B mid, 23, none⟩ (.pointer (ad B (rt ta)))).drewN 1) wb B n T (upd fa mid 23 (rt ta)) fb wt g wait (mid + 1) hi (some mid) tb)
    (hm : Mem (wb.setCell ⟨bk B mid, 24, none⟩ (.pointer (ad B (rt tb)))) B n T (upd fb mid 24 (rt tb)) wt g wait) :
    Grew w (wb.setCell ⟨bk B mid, 24, none⟩ (.pointer (ad B (rt tb)))) B n T f (upd fb mid 24 (rt tb)) wt g wait lo hi up (.node mid 0 () ta tb) := by
  have ea : ∀ i ∈ io ta, i < mid := fun i hi => by rw [ga.nodes, List.mem_range'_1] at hi; omega
  have eb : ∀ i ∈ io tb, mid < i := fun i hi => by rw [gb.nodes, List.mem_range'_1] at hi; omega
  have oa := ga.other mid (.inr (Nat.le_refl _))
  have ob := gb.other mid (.inl (by omega))
  refine ⟨hm, ⟨?_, ?_, ?_, IsT.congr _ _ (fun i hi => ?_) ga.tree, IsT.congr _ _ (fun i hi => ?_) gb.tree⟩, ?_, fun i hi o => ?_, fun i => ?_, ?_⟩
  · have e1 := ob 22
    have e2 := oa 22
    simp [upd] at e1 e2 ⊢
    rw [e1, e2]
  · have e1 := ob 23
    simp [upd] at e1 ⊢
    exact e1
  · simp [upd]
  · have hlt := ea i hi
    have hne : ¬ i = mid := by omega
    have e := gb.other i (.inl (by omega))
    have e1 := e 22
    have e2 := e 23
    have e3 := e 24
    simp [upd, hne] at e1 e2 e3 ⊢
    exact ⟨e1, e2, e3⟩
  · have hlt := eb i hi
    have hne : ¬ i = mid := by omega
    simp [upd, hne]
  · simp only [io]
    rw [ga.nodes, gb.nodes]
    have e : mid :: List.range' (mid + 1) (hi - (mid + 1)) = List.range' (lo + (mid - lo)) (hi - mid) := by
      rw [show lo + (mid - lo) = mid by omega, show hi - mid = (hi - (mid + 1)) + 1 by omega, List.range'_succ]
    rw [e, List.range'_append_1, show mid - lo + (hi - mid) = hi - lo by omega]
  · have hne : ¬ i = mid := by omega
    have e1 := gb.other i (by omega) o
    have e2 := ga.other i (by omega) o
    simp only [upd] at e1 e2 ⊢
    simp only [hne, false_and, if_false] at e1 e2 ⊢
    rw [e1, e2]
  · have e1 := gb.links i
    have e2 := ga.links i
    simp only [upd] at e1 e2 ⊢
    simp at e1 e2 ⊢
    exact ⟨e1.1.trans e2.1, e1.2.trans e2.2⟩
  · have b1 : Below B w ((w.setCell ⟨bk B mid, 22, none⟩ (.pointer (ad B up))).drewN 1) := below_drewN ((Below.refl _ _).setCell (p := ⟨bk B mid, 22, none⟩) (bk_ge B mid) _) 1
    have b2 : Below B wa ((wa.setCell ⟨bk B mid, 23, none⟩ (.pointer (ad B (rt ta)))).drewN 1) := below_drewN ((Below.refl _ _).setCell (p := ⟨bk B mid, 23, none⟩) (bk_ge B mid) _) 1
    exact (b1.trans (ga.bel.trans (b2.trans gb.bel))).setCell (p := ⟨bk B mid, 24, none⟩) (bk_ge B mid) _

set_option maxRecDepth 10000 in
set_option maxHeartbeats 1000000 in
theorem build_any {B n T cap : Nat} {wt : Nat → Option Addr} {g : Nat → Option Nat} {wait : Int} (hn : n ≤ 256) : ∀ (d lo hi : Nat) (hd : hi - lo ≤ d) (hh : hi ≤ n) (up : Option Nat) (f : Nat → Nat → Option Nat) (w : World) (h : Mem w B n T f wt g wait),
    Calls Yba.prog 18 #[.slice (some ⟨B, 0, none⟩) n cap, .int .i64 lo, .int .i64 hi, .pointer (ad B up)] w fun e w' => ∃ t f', e = .returned (.pointer (ad B (rt t))) ∧ Grew w w' B n T f f' wt g wait lo hi up t := by
  intro d
  induction d with
  | zero =>
    intro lo hi hd hh up f w h
    have hle : (hi : Int) ≤ (lo : Int) := by omega
    have HM : Hid (Mem w B n T f wt g wait) := h
    clear h
    go_enter Yba.func18, Yba.ntmps18
    go_wp2
    go_ret
    exact ⟨.nil, f, rfl, HM.out, trivial, by rw [show hi - lo = 0 by omega]; rfl, fun _ _ _ => rfl, fun _ => ⟨rfl, rfl⟩, Below.refl _ _⟩
  | succ d ih =>
    intro lo hi hd hh up f w h
    have HM : Hid (Mem w B n T f wt g wait) := h
    have IH : Hid (∀ (lo hi : Nat) (hd : hi - lo ≤ d) (hh : hi ≤ n) (up : Option Nat) (f : Nat → Nat → Option Nat) (w : World) (h : Mem w B n T f wt g wait),
      Calls Yba.prog 18 #[.slice (some ⟨B, 0, none⟩) n cap, .int .i64 lo, .int .i64 hi, .pointer (ad B up)] w fun e w' => ∃ t f', e = .returned (.pointer (ad B (rt t))) ∧ Grew w w' B n T f f' wt g wait lo hi up t) := ih
    clear h ih
    by_cases hlt : lo < hi
    · obtain ⟨mid, hmid⟩ : ∃ mid : Nat, mid = lo + (hi - lo) / 2 := ⟨_, rfl⟩
      have hm1 : lo ≤ mid ∧ mid < hi := by omega
      have hmI : (lo : Int) + ((hi : Int) - (lo : Int)) / 2 = (mid : Int) := by omega
      clear hmid
      have hmn : mid < n := by omega
      have cm := HM.out.row mid hmn
      have i22 : IsPtr 22 := by unfold IsPtr; omega
      have i23 : IsPtr 23 := by unfold IsPtr; omega
      have i24 : IsPtr 24 := by unfold IsPtr; omega
      have c22 := HM.out.ptr mid 22 hmn i22
      have f22 := HM.out.free hmn 22
      have hnI : (n : Int) ≤ 256 := by omega
      have hl1 : (lo : Int) < (hi : Int) := by omega
      have hl2 : (hi : Int) ≤ (n : Int) := by omega
      have hl3 : (mid : Int) < (n : Int) := by omega
      have HM1 : Hid (Mem (w.setCell ⟨bk B mid, 22, none⟩ (.pointer (ad B up))) B n T (upd f mid 22 up) wt g wait) := HM.out.setPtr hmn i22 up
      have C1 : Hid (∀ wx, Mem wx B n T (upd f mid 22 up) wt g wait → Calls Yba.prog 18 #[.slice (some ⟨B, 0, none⟩) n cap, .int .i64 lo, .int .i64 mid, .pointer (some ⟨bk B mid, 0, none⟩)] wx fun e w' => ∃ t f', e = .returned (.pointer (ad B (rt t))) ∧ Grew wx w' B n T (upd f mid 22 up) f' wt g wait lo mid (some mid) t) :=
        fun wx hx => IH.out lo mid (by omega) (by omega) (some mid) _ wx hx
      go_enter Yba.func18, Yba.ntmps18
      go_wp2_with fail
      go_region_with (go_at_call 18; refine (C1.out _ (HM1.out.drewN 1)).mono ?_; rintro e wa ⟨ta, fa, rfl, hga⟩; have ca := hga.mem.ptr mid 23 hmn i23; have za := hga.mem.free hmn 23)
      have HGA : Hid (Grew ((w.setCell ⟨bk B mid, 22, none⟩ (.pointer (ad B up))).drewN 1) wa B n T (upd f mid 22 up) fa wt g wait lo mid (some mid) ta) := hga
      clear hga ca za cm c22 f22 C1
      have HM2 : Hid (Mem (wa.setCell ⟨bk B mid, 23, none⟩ (.pointer (ad B (rt ta)))) B n T (upd fa mid 23 (rt ta)) wt g wait) := HGA.out.mem.setPtr hmn i23 (rt ta)
      have C2 : Hid (∀ wx, Mem wx B n T (upd fa mid 23 (rt ta)) wt g wait → Calls Yba.prog 18 #[.slice (some ⟨B, 0, none⟩) n cap, .int .i64 (IntKind.i64.wrap ((mid : Int) + 1)), .int .i64 hi, .pointer (some ⟨bk B mid, 0, none⟩)] wx fun e w' => ∃ t f', e = .returned (.pointer (ad B (rt t))) ∧ Grew wx w' B n T (upd fa mid 23 (rt ta)) f' wt g wait (mid + 1) hi (some mid) t) :=
        fun wx hx => by rw [IntWalk.i64_in _ (by omega)]; exact IH.out (mid + 1) hi (by omega) hh (some mid) _ wx hx
      go_wp2_with fail
      go_region_with (go_at_call 18; refine (C2.out _ (HM2.out.drewN 1)).mono ?_; rintro e wb ⟨tb, fb, rfl, hgb⟩; have ca := hgb.mem.ptr mid 24 hmn i24; have za := hgb.mem.free hmn 24)
      have HGB : Hid (Grew ((wa.setCell ⟨bk B mid, 23, none⟩ (.pointer (ad B (rt ta)))).drewN 1) wb B n T (upd fa mid 23 (rt ta)) fb wt g wait (mid + 1) hi (some mid) tb) := hgb
      clear hgb ca za C2
      go_wp2
      go_ret
      exact ⟨.node mid 0 () ta tb, _, rfl, grew_join hm1.1 hm1.2 HGA.out HGB.out (HGB.out.mem.setPtr hmn i24 (rt tb))⟩
    · have hle : (hi : Int) ≤ (lo : Int) := by omega
      go_enter Yba.func18, Yba.ntmps18
      go_wp2
      go_ret
      exact ⟨.nil, f, rfl, HM.out, trivial, by rw [show hi - lo = 0 by omega]; rfl, fun _ _ _ => rfl, fun _ => ⟨rfl, rfl⟩, Below.refl _ _⟩
end Go.Proofs.YbulkanmgRR
