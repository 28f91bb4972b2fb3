import Derived.Test.YbulkanmgRRShift
import Derived.Test.YbulkanmgRRSet
import Derived.Deep.LoopGhost
namespace Go.Proofs.YbulkanmgRR
set_option linter.unusedVariables false
set_option linter.unusedSimpArgs false
open Go.RowKit Go.MuLone

theorem own_less {w : World} {base n cap : Nat} {q : Option Addr} {e : TypeId} {xs : List Value} (h : w.ownsRow base e 1 (.slice q n cap) n xs) (m : Nat) (hm : m ≤ n) (hq : q ≠ none) : w.ownsRow base e 1 (.slice q m cap) m (xs.take m) := by
  refine ⟨by rw [List.length_take, h.1]; omega, ?_⟩
  rcases h.2 with ⟨h0, _⟩ | ⟨g, cap1, cur, h1, h2, h3, h4, h5, h6, h7⟩
  · cases h0; exact absurd rfl hq
  · injection h1 with h1 _ h1c
    subst h1 h1c
    refine .inr ⟨g, cap, cur, rfl, h2, h3, by omega, h5, h6, ?_⟩
    rw [← h7, List.take_take]
    congr 1; omega

set_option maxRecDepth 10000 in
set_option maxHeartbeats 1600000 in
/-- keep. -/
theorem keep_any (P o sb c : Nat) (f : Nat → Option Value) (q : Option Addr) (n cap : Nat) (L aS aL a b : Int) (base : Nat) (xs : List Value) (w : World) (hP : PM w P f) (hp : Part f o q n cap L aS aL)
    (hset : SetAt w sb c) (hsb : base ≤ sb) (hsq : ∀ k, (Value.slice q n cap).ownBlock = some k → k < sb)
    (hown : w.ownsRow base 51 1 (.slice q n cap) n xs) (hel : ∀ x, x ∈ xs → ∃ (b0 : Nat) (c0 : Int), x = .pointer (some ⟨b0, 0, none⟩) ∧ w.cell? ⟨b0, 1, none⟩ = some (.int .i64 c0) ∧ 0 ≤ c0 ∧ c0 ≤ 1000 ∧ b0 ≠ P)
    (hb : P < base) (hbs : base ≤ w.heap.size) (hn : n ≤ 1000) (hc : c ≤ 1000) (hL : 0 ≤ L ∧ L ≤ aL) (hS : (n : Int) ≤ aS ∧ 1 ≤ aS ∧ aS ≤ 1000000) (hA : aL ≤ 1000000) (ha : 0 ≤ a ∧ a ≤ 1000) (hb' : 0 ≤ b ∧ b ≤ 1000) :
    Calls Yba.prog 16 #[.pointer (some ⟨P, o, none⟩), .pointer (some ⟨sb, 0, none⟩), alw a b] w fun e w' => e = .returned (.tuple #[]) ∧ Below P w w' ∧
      ∃ f' q' m cap' c', PM w' P f' ∧ f' (o + 2) = some (.slice q' m cap') ∧ w'.cell? ⟨sb, 1, none⟩ = some (.int .i64 c') ∧ ((n : Int) < aS + a → m = n + 1) ∧ (L + c ≤ aL + b → c' = c) := by
  have hlt := hP.lt
  go_enter_defers Yba.func16, Yba.ntmps16
  have hLk := lock_part P o f (w.alloc (Obj.cells #[Value.int IntKind.i64 a, Value.int IntKind.i64 b] 47)) (hP.alloc _) hp.mu
  go_wp2_with (go_at_call 20; refine hLk.mono ?_; rintro e W ⟨rfl, H1, H2, H3⟩; clear hLk; have h4 := (H1.cell (o + 4)).trans ((put1_other f _ (by omega)).trans hp.asets); have h5 := (H1.cell (o + 5)).trans ((put1_other f _ (by omega)).trans hp.alocks); have f4 := H1.free (o + 4); have f5 := H1.free (o + 5); have hB : PM W w.heap.size (box2 (.int .i64 a) (.int .i64 b)) := (PM.box2 w _ _ _).fr H2 (by omega); have hb0 : W.cell? ⟨w.heap.size, 0, none⟩ = some (.int .i64 a) := hB.cell 0; have hb1 : W.cell? ⟨w.heap.size, 1, none⟩ = some (.int .i64 b) := hB.cell 1)
  have HS : Hid (SetAt w sb c) := hset
  have HO : Hid (w.ownsRow base 51 1 (.slice q n cap) n xs) := hown
  have HE : Hid (∀ x, x ∈ xs → ∃ (b0 : Nat) (c0 : Int), x = .pointer (some ⟨b0, 0, none⟩) ∧ w.cell? ⟨b0, 1, none⟩ = some (.int .i64 c0) ∧ 0 ≤ c0 ∧ c0 ≤ 1000 ∧ b0 ≠ P) := hel
  clear hset hown hel
  refine wp_cut (A := ?A) (W := ?W) ?reg ?rest
  case reg =>
    go_region
    all_goals exact AtEnd.mk _ _
  have e1 : (W.setCell ⟨P, o + 4, none⟩ (.int .i64 (aS + a))).drew.cell? ⟨P, o + 5, none⟩ = some (.int .i64 aL) := (World.cell?_setCell_other _ _ _ _ (by simp)).trans h5
  go_wp2_with fail
  refine wp_cut (A := ?A2) (W := ?W2) ?reg2 ?rest2
  case reg2 =>
    go_region
    all_goals exact AtEnd.mk _ _
  obtain ⟨W1, hW1⟩ : ∃ W1, ((W.setCell ⟨P, o + 4, none⟩ (.int .i64 (aS + a))).setCell ⟨P, o + 4 + 1, none⟩ (.int .i64 (aL + b))).drew.drew = W1 := ⟨_, rfl⟩
  obtain ⟨f1, hf1⟩ : ∃ f1, put1 (put1 (put1 f o (.int .i32 1)) (o + 4) (.int .i64 (aS + a))) (o + 4 + 1) (.int .i64 (aL + b)) = f1 := ⟨_, rfl⟩
  have K1 : PM W1 P f1 := by
    rw [← hW1, ← hf1]
    exact ((H1.set (o + 4) _ (by rw [put1_other f _ (by omega), hp.asets]; rfl)).set (o + 4 + 1) _ (by rw [put1_other _ _ (by omega), put1_other f _ (by omega), hp.alocks]; rfl)).drew.drew
  have KF : Fr (fun k => k = P) w W1 := by
    rw [← hW1]
    exact (((((Fr.refl (fun k => k = P) w).alloc _).trans H2).setCell _ _ (.inl rfl)).setCell _ _ (.inl rfl)).drew.drew
  have g0 : f1 o = some (.int .i32 1) := by rw [← hf1, put1_other _ _ (by omega), put1_other _ _ (by omega), put1_same]
  have g2 : f1 (o + 2) = some (.slice q n cap) := by rw [← hf1, put1_other _ _ (by omega), put1_other _ _ (by omega), put1_other _ _ (by omega), hp.sets]
  have g3 : f1 (o + 3) = some (.int .i64 L) := by rw [← hf1, put1_other _ _ (by omega), put1_other _ _ (by omega), put1_other _ _ (by omega), hp.locks]
  have g4 : f1 (o + 4) = some (.int .i64 (aS + a)) := by rw [← hf1, put1_other _ _ (by omega), put1_same]
  have g5 : f1 (o + 5) = some (.int .i64 (aL + b)) := by rw [← hf1]; exact put1_same _ _ _
  have S1 : SetAt W1 sb c := HS.out.fr KF (fun j _ => by omega)
  have O1 : W1.ownsRow base 51 1 (.slice q n cap) n xs := own_fr HO.out KF (fun k hk e => by have := (HO.out.lt k hk).1; omega)
  have B1 : Below P w W1 := KF.below P (by omega) (fun k hk => by omega)
  have E1 : Hid (∀ x, x ∈ xs → ∃ (b0 : Nat) (c0 : Int), x = .pointer (some ⟨b0, 0, none⟩) ∧ W1.cell? ⟨b0, 1, none⟩ = some (.int .i64 c0) ∧ 0 ≤ c0 ∧ c0 ≤ 1000 ∧ b0 ≠ P) := by
    intro x hx
    obtain ⟨b0, c0, r1, r2, r3, r4, r5⟩ := HE.out x hx
    exact ⟨b0, c0, r1, (KF.cell (World.block_lt_of_cell? w _ r2) r5).trans r2, r3, r4, r5⟩
  rw [hW1]
  clear hW1 hf1 e1 h4 h5 f4 f5 hb0 hb1 hB H1 H2 H3 HE HO HS hP hp
  have c2 := (K1.cell (o + 2)).trans g2
  have c3 := (K1.cell (o + 3)).trans g3
  have c4 := (K1.cell (o + 4)).trans g4
  have c5 := (K1.cell (o + 5)).trans g5
  have p3 := K1.free (o + 3)
  by_cases hfull : (n : Int) = aS + a
  · have hn1 : 1 ≤ n := by omega
    have hfb : ((n : Int) == aS + a) = true := by simp [hfull]
    obtain ⟨g, hq⟩ : ∃ g, q = some ⟨g, 0, none⟩ := by
      rcases O1.2 with ⟨_, h⟩ | ⟨g, cap1, cur, h, _⟩
      · omega
      · injection h with h _ _; exact ⟨g, h⟩
    subst hq
    have hgsb : g < sb := hsq g rfl
    have hbg : base ≤ g := (O1.lt g rfl).1
    clear hsq
    obtain ⟨x0, hx0⟩ : ∃ x0, xs[0]? = some x0 := by
      have hl := O1.1
      cases hxs : xs with
      | nil => rw [hxs] at hl; simp at hl; omega
      | cons x r => exact ⟨x, rfl⟩
    obtain ⟨b0, c0, rfl, r2, r3, r4, r5⟩ := E1.out x0 (List.mem_of_getElem? hx0)
    have r1 : W1.cell? ⟨g, 0, none⟩ = some (.pointer (some ⟨b0, 0, none⟩)) := O1.cells rfl 0 _ hx0
    have hnI : (0 : Int) < (n : Int) := by omega
    have OH : Hid (W1.ownsRow base 51 1 (.slice (some ⟨g, 0, none⟩) n cap) n xs) := O1
    have SH : Hid (SetAt W1 sb c) := S1
    have KH : Hid (PM W1 P f1) := K1
    have FH : Hid ((n : Int) = aS + a) := hfull
    clear O1 S1 K1 hfull
    go_wp2_with fail
    refine wp_cut (A := ?A3) (W := ?W3) ?reg3 ?rest3
    case reg3 =>
      go_region
      all_goals exact AtEnd.mk _ _
    obtain ⟨W3, hW3⟩ : ∃ W3, (W1.setCell ⟨P, o + 3, none⟩ (.int .i64 (L - c0))).drew = W3 := ⟨_, rfl⟩
    have K3 : PM W3 P (put1 f1 (o + 3) (.int .i64 (L - c0))) := by rw [← hW3]; exact (KH.out.set (o + 3) _ (by rw [g3]; rfl)).drew
    have F3 : Fr (fun k => k = P) W1 W3 := by rw [← hW3]; exact ((Fr.refl (fun k => k = P) W1).setCell _ _ (.inl rfl)).drew
    have O3 : W3.ownsRow base 51 1 (.slice (some ⟨g, 0, none⟩) n cap) n xs := own_fr OH.out F3 (fun k hk e => by have := (OH.out.lt k hk).1; omega)
    have d2 := (K3.cell (o + 2)).trans ((put1_other f1 _ (by omega)).trans g2)
    rw [hW3]
    have hPg : P ≠ g := by have := (OH.out.lt g rfl).1; omega
    clear hW3 c2 c3 c4 c5 p3 r2 r1
    have hcap : n ≤ cap := by
      rcases OH.out.2 with ⟨h, _⟩ | ⟨g1, cap1, cur, h, _, _, h3, _⟩
      · cases h
      · injection h with _ _ h; omega
    have i1 : (1 : Int) ≤ (n : Int) := by omega
    have i2 : (n : Int) ≤ (cap : Int) := by omega
    go_wp2_with fail
    have hone : ∀ x ∈ xs, x.oneCell' = true := by
      intro x hx
      obtain ⟨b1, c1, rfl, _⟩ := E1.out x hx
      rfl
    have HONE : Hid (∀ x ∈ xs, x.oneCell' = true) := hone
    have O3H : Hid (W3.ownsRow base 51 1 (.slice (some ⟨g, 0, none⟩) n cap) n xs) := O3
    have K3H : Hid (PM W3 P (put1 f1 (o + 3) (.int .i64 (L - c0)))) := K3
    have F3H : Hid (Fr (fun k => k = P) W1 W3) := F3
    clear hone O3 K3 F3
    refine wp_cutR (A := ?A4) (fun w' => PM w' P (put1 f1 (o + 3) (.int .i64 (L - c0))) ∧ Fr (fun k => k = P ∨ k = g) W1 w' ∧ ∃ xs', w'.ownsRow base 51 1 (.slice (some ⟨g, 0, none⟩) n cap) n xs') ?reg4 ?rest4
    case reg4 =>
      go_region_held3 (fun w' => w'.cell? ⟨P, o + 2, none⟩ = some (.slice (some ⟨g, 0, none⟩) n cap)) (go_keep)
        ((refine step_copy_down (by rfl) _ _ (by rfl) g n cap _ _ base xs (by rfl) (by rfl) (by intro h; first | omega | rfl | (split <;> first | omega | rfl)) O3H.out HONE.out ?_; intro W4 xs4 hown4 hfr4; have d4 : W4.cell? ⟨P, o + 2, none⟩ = some (.slice (some ⟨g, 0, none⟩) n cap) := (hfr4.cell K3H.out.lt hPg).trans d2))
      all_goals refine AtEndR.mk _ ?_
      all_goals exact ⟨K3H.out.fr (Fr.of_drew hfr4) hPg, (F3H.out.mono (fun _ _ e => .inl e)).trans ((Fr.of_drew hfr4).mono (fun _ _ e => .inr e)), xs4, hown4⟩
    rintro W4 ⟨K4, F4, xs4, O4⟩
    generalize (if cap = 1 then some (⟨g, 0, none⟩ : Addr) else some ⟨g, 1, none⟩) = ux
    have d4 := (K4.cell (o + 2)).trans ((put1_other f1 _ (by omega)).trans g2)
    have p4 := K4.free (o + 2)
    have S4 : SetAt W4 sb c := SH.out.fr F4 (fun j _ => by omega)
    have S4H : Hid (SetAt W4 sb c) := S4
    have K4H : Hid (PM W4 P (put1 f1 (o + 3) (.int .i64 (L - c0)))) := K4
    have O4H : Hid (W4.ownsRow base 51 1 (.slice (some ⟨g, 0, none⟩) n cap) n xs4) := O4
    have i4 : (0 : Int) ≤ (n : Int) - 1 := by omega
    have i5 : (n : Int) - 1 ≤ (cap : Int) := by omega
    have i6 : ((n : Int) - 1).toNat = n - 1 := by omega
    clear d2 S4 K4 O4 K3H O3H F3H HONE SH KH OH
    go_wp2_with fail
    obtain ⟨W5, hW5⟩ : ∃ W5, W4.setCell ⟨P, o + 2, none⟩ (Value.slice (some ⟨g, 0, none⟩) (n - 1) cap) = W5 := ⟨_, rfl⟩
    obtain ⟨f5, hf5⟩ : ∃ f5, put1 (put1 f1 (o + 3) (.int .i64 (L - c0))) (o + 2) (Value.slice (some ⟨g, 0, none⟩) (n - 1) cap) = f5 := ⟨_, rfl⟩
    obtain ⟨L5, hL5⟩ : ∃ L5, L - c0 = L5 := ⟨_, rfl⟩
    obtain ⟨m5, hm5⟩ : ∃ m5, n - 1 = m5 := ⟨_, rfl⟩
    have V1 : PM W5 P f5 := by rw [← hW5, ← hf5]; exact K4H.out.set (o + 2) _ (by rw [put1_other _ _ (by omega), g2]; rfl)
    have v0 : f5 o = some (.int .i32 1) := by rw [← hf5, put1_other _ _ (by omega), put1_other _ _ (by omega), g0]
    have v2 : f5 (o + 2) = some (.slice (some ⟨g, 0, none⟩) m5 cap) := by rw [← hf5, put1_same, hm5]
    have v3 : f5 (o + 3) = some (.int .i64 L5) := by rw [← hf5, put1_other _ _ (by omega), put1_same, hL5]
    have v5 : f5 (o + 5) = some (.int .i64 (aL + b)) := by rw [← hf5, put1_other _ _ (by omega), put1_other _ _ (by omega), g5]
    have G5 : Fr (fun k => k = P) W4 W5 := by rw [← hW5]; exact (Fr.refl (fun k => k = P) W4).setCell _ _ (.inl rfl)
    have V2 : SetAt W5 sb c := S4H.out.fr G5 (fun j _ => by omega)
    have O5 : W5.ownsRow base 51 1 (.slice (some ⟨g, 0, none⟩) n cap) n xs4 := own_fr O4H.out G5 (fun k hk e => by have := (O4H.out.lt k hk).1; omega)
    obtain ⟨xs5, V3⟩ : ∃ xs5, W5.ownsRow base 51 1 (.slice (some ⟨g, 0, none⟩) m5 cap) m5 xs5 := ⟨_, own_less O5 m5 (by omega) (by simp)⟩
    have V4 : Below P w W5 := B1.trans (((F4.trans (G5.mono (fun _ _ e => .inl e))).below P (by have := B1.size; omega) (fun k hk => by omega)))
    have V5 : ∀ k, (Value.slice (some ⟨g, 0, none⟩) m5 cap).ownBlock = some k → k < sb := by intro k hk; have e3 : some g = some k := hk; injection e3 with e3; omega
    have V6 : base ≤ W5.heap.size := Nat.le_trans hbs V4.size
    have n1 : L5 ≤ L := by omega
    have n2 : -1000 ≤ L5 := by omega
    have n3 : m5 ≤ 1000 := by omega
    have n4 : (n : Int) < aS + a → m5 = n := by have := FH.out; omega
    rw [hW5]
    generalize hq5 : (some ⟨g, 0, none⟩ : Option Addr) = q5 at v2 V3 V5
    generalize hc5 : cap = cap5 at v2 V3 V5
    clear hW5 hf5 hL5 hm5 G5 O5 S4H K4H O4H d4 p4
    have V7 : Hid (PM W5 P f5 ∧ SetAt W5 sb c ∧ W5.ownsRow base 51 1 (.slice q5 m5 cap5) m5 xs5 ∧ Below P w W5 ∧ base ≤ W5.heap.size) := ⟨V1, V2, V3, V4, V6⟩
    have V8 : Hid (∀ k, (Value.slice q5 m5 cap5).ownBlock = some k → k < sb) := V5
    have N4 : Hid ((n : Int) < aS + a → m5 = n) := n4
    clear V1 V2 V3 V4 V6 V5 n4
    go_loopg [] c (fun m wr => m ≤ c ∧ PM wr P f5 ∧ SetAt wr sb m ∧ wr.ownsRow base 51 1 (.slice q5 m5 cap5) m5 xs5 ∧ Below P w wr ∧ base ≤ wr.heap.size ∧ (L + c ≤ aL + b → m = c))
    case atStart => exact ⟨Nat.le_refl _, V7.out.1, V7.out.2.1, V7.out.2.2.1, V7.out.2.2.2.1, V7.out.2.2.2.2, fun _ => rfl⟩
    case round =>
      clear V7
      obtain ⟨hd, R1, R2, R3, R4, R5, R6⟩ := hrel
      obtain ⟨fs, T1, T2, T3⟩ := R2.hd
      have k3 := (R1.cell (o + 3)).trans v3
      have k5 := (R1.cell (o + 5)).trans v5
      have s0 := (T1.cell 0).trans T2
      have s1 := (T1.cell 1).trans T3
      have t0 := T1.free 0
      have t1 := T1.free 1
      have RH : Hid (PM wr P f5 ∧ SetAt wr sb gk ∧ wr.ownsRow base 51 1 (.slice q5 m5 cap5) m5 xs5 ∧ Below P w wr ∧ base ≤ wr.heap.size ∧ (L + c ≤ aL + b → gk = c)) := ⟨R1, R2, R3, R4, R5, R6⟩
      clear R1 R2 R3 R4 R5 R6 T1 T2 T3
      by_cases hgt : aL + b < L5 + gk
      · obtain ⟨d, rfl⟩ : ∃ d, gk = d + 1 := ⟨gk - 1, by omega⟩
        have s1' : wr.cell? ⟨sb, 1, none⟩ = some (.int .i64 ((d : Int) + 1)) := s1
        have hgt' : aL + b < L5 + ((d : Int) + 1) := by omega
        rw [nx_succ] at s0
        obtain ⟨fl, L1, L2⟩ := RH.out.2.1.tl (d + 1) (by omega) (Nat.le_refl _)
        have l11 : wr.cell? ⟨sb + (d + 1), 11, none⟩ = some (.pointer (nx sb d)) := (L1.cell 11).trans L2
        have lf := L1.free 11
        have hne : ¬ sb = sb + (d + 1) := by omega
        clear s1 L1 L2 hgt
        go_wp2_with fail
        refine wp_cut (A := ?Aa1) (W := ?Wa1) ?rega1 ?resta1
        case rega1 =>
          go_region
          all_goals exact AtEnd.mk _ _
        go_wp2_with fail
        have G : Fr (fun k => sb ≤ k) wr (((wr.setCell ⟨sb, 0, none⟩ (.pointer (nx sb d))).setCell ⟨sb + (d + 1), 11, none⟩ (.pointer none)).setCell ⟨sb, 1, none⟩ (.int .i64 (d : Int))).drew :=
          ((((Fr.refl (fun k => sb ≤ k) wr).setCell _ _ (.inl (Nat.le_refl _))).setCell _ _ (.inl (Nat.le_add_right _ _))).setCell _ _ (.inl (Nat.le_refl _))).drew
        go_roundg d
        case measure => omega
        case rel => exact ⟨by omega, RH.out.1.fr G (by omega), RH.out.2.1.pop.fr ((Fr.refl (fun _ => False) _).drew) (fun _ _ h => h), own_fr RH.out.2.2.1 G (fun k hk e => by have := V8.out k hk; omega), RH.out.2.2.2.1.trans (G.below P (by have := RH.out.2.2.2.2.1; omega) (fun k hk => by omega)), Nat.le_trans RH.out.2.2.2.2.1 G.size, fun h => by omega⟩
      · have hgt' : ¬ aL + b < L5 + (gk : Int) := hgt
        clear hgt
        go_wp2_with fail
        refine wp_cut (A := ?Aa2) (W := ?Wa2) ?rega2 ?resta2
        case rega2 =>
          go_region
          all_goals exact AtEnd.mk _ _
        go_wp2_with fail
        refine (push_any P o sb f5 q5 m5 cap5 L5 gk base xs5 wr.drew RH.out.1.drew v2 v3 s1 RH.out.2.2.1 hb RH.out.2.2.2.2.1 n3 (by omega) (by omega)).mono ?_
        rintro e W6 ⟨rfl, g6, cap6, J1, J2, J3, J4⟩
        go_wp2_with fail
        refine leaves_cons (f := 21) (args := #[.pointer (some ⟨P, o, none⟩)]) (by simp) (by simp [go_sem]) ?_
        refine (unlock_part P o _ .returning _ J1 (by rw [put1_other _ _ (by omega), put1_other _ _ (by omega), v0])).mono ?_
        rintro e u' W7 ⟨rfl, rfl, U1, U2, U3⟩
        have J3' : Fr (fun k => k = P ∨ (Value.slice q5 m5 cap5).ownBlock = some k) wr W7 := (Fr.of_drew J3).trans (U2.mono (fun _ _ e => .inl e))
        have hsw : sb < wr.heap.size := World.block_lt_of_cell? wr _ s1
        refine ⟨_, results_none rfl _ _ _, rfl, RH.out.2.2.2.1.trans (J3'.below P (by have := RH.out.2.2.2.2.1; omega) (fun k hk h => ?_)), _, some ⟨g6, 0, none⟩, m5 + 1, cap6, gk, U1, ?_, (J3'.cell (p := ⟨sb, 1, none⟩) hsw (fun h => ?_)).trans s1, fun h => ?_, fun h => ?_⟩
        · rcases h with h | h
          · omega
          · have := (RH.out.2.2.1.lt k h).1; omega
        · rw [put1_other _ _ (by omega), put1_same]
        · rcases h with h | h
          · have h' : sb = P := h
            omega
          · have := V8.out _ h; simp at this
        · rw [N4.out h]
        · exact congrArg Nat.cast (RH.out.2.2.2.2.2 h)
  · have hfb : ((n : Int) == aS + a) = false := by simpa using hfull
    have FH : Hid (¬ (n : Int) = aS + a) := hfull
    have KH : Hid (PM W1 P f1 ∧ SetAt W1 sb c ∧ W1.ownsRow base 51 1 (.slice q n cap) n xs ∧ Below P w W1) := ⟨K1, S1, O1, B1⟩
    have QH : Hid (∀ k, (Value.slice q n cap).ownBlock = some k → k < sb) := hsq
    clear K1 S1 O1 B1 hfull hsq
    go_wp2_with fail
    obtain ⟨W5, hW5⟩ : ∃ W5, W1 = W5 := ⟨_, rfl⟩
    obtain ⟨f5, hf5⟩ : ∃ f5, f1 = f5 := ⟨_, rfl⟩
    obtain ⟨V1, V2, V3, V4⟩ := KH.out
    have v0 := g0
    have v2 := g2
    have v3 := g3
    have v5 := g5
    rw [hf5] at V1 v0 v2 v3 v5
    rw [hW5] at V1 V2 V3 V4
    have V5 := QH.out
    have V6 : base ≤ W5.heap.size := Nat.le_trans hbs V4.size
    have n3 : n ≤ 1000 := hn
    have n4 : (n : Int) < aS + a → n = n := fun _ => rfl
    rw [hW5]
    clear KH QH KF c2 c3 c4 c5 p3 hW5 hf5 g0 g2 g3 g4 g5 E1
    have V7 : Hid (PM W5 P f5 ∧ SetAt W5 sb c ∧ W5.ownsRow base 51 1 (.slice q n cap) n xs ∧ Below P w W5 ∧ base ≤ W5.heap.size) := ⟨V1, V2, V3, V4, V6⟩
    have V8 : Hid (∀ k, (Value.slice q n cap).ownBlock = some k → k < sb) := V5
    have N4 : Hid ((n : Int) < aS + a → n = n) := n4
    clear V1 V2 V3 V4 V6 V5 n4
    go_loopg [] c (fun m wr => m ≤ c ∧ PM wr P f5 ∧ SetAt wr sb m ∧ wr.ownsRow base 51 1 (.slice q n cap) n xs ∧ Below P w wr ∧ base ≤ wr.heap.size ∧ (L + c ≤ aL + b → m = c))
    case atStart => exact ⟨Nat.le_refl _, V7.out.1, V7.out.2.1, V7.out.2.2.1, V7.out.2.2.2.1, V7.out.2.2.2.2, fun _ => rfl⟩
    case round =>
      clear V7
      obtain ⟨hd, R1, R2, R3, R4, R5, R6⟩ := hrel
      obtain ⟨fs, T1, T2, T3⟩ := R2.hd
      have k3 := (R1.cell (o + 3)).trans v3
      have k5 := (R1.cell (o + 5)).trans v5
      have s0 := (T1.cell 0).trans T2
      have s1 := (T1.cell 1).trans T3
      have t0 := T1.free 0
      have t1 := T1.free 1
      have RH : Hid (PM wr P f5 ∧ SetAt wr sb gk ∧ wr.ownsRow base 51 1 (.slice q n cap) n xs ∧ Below P w wr ∧ base ≤ wr.heap.size ∧ (L + c ≤ aL + b → gk = c)) := ⟨R1, R2, R3, R4, R5, R6⟩
      clear R1 R2 R3 R4 R5 R6 T1 T2 T3
      by_cases hgt : aL + b < L + gk
      · obtain ⟨d, rfl⟩ : ∃ d, gk = d + 1 := ⟨gk - 1, by omega⟩
        have s1' : wr.cell? ⟨sb, 1, none⟩ = some (.int .i64 ((d : Int) + 1)) := s1
        have hgt' : aL + b < L + ((d : Int) + 1) := by omega
        rw [nx_succ] at s0
        obtain ⟨fl, L1, L2⟩ := RH.out.2.1.tl (d + 1) (by omega) (Nat.le_refl _)
        have l11 : wr.cell? ⟨sb + (d + 1), 11, none⟩ = some (.pointer (nx sb d)) := (L1.cell 11).trans L2
        have lf := L1.free 11
        have hne : ¬ sb = sb + (d + 1) := by omega
        clear s1 L1 L2 hgt
        go_wp2_with fail
        refine wp_cut (A := ?Ab1) (W := ?Wb1) ?regb1 ?restb1
        case regb1 =>
          go_region
          all_goals exact AtEnd.mk _ _
        go_wp2_with fail
        have G : Fr (fun k => sb ≤ k) wr (((wr.setCell ⟨sb, 0, none⟩ (.pointer (nx sb d))).setCell ⟨sb + (d + 1), 11, none⟩ (.pointer none)).setCell ⟨sb, 1, none⟩ (.int .i64 (d : Int))).drew :=
          ((((Fr.refl (fun k => sb ≤ k) wr).setCell _ _ (.inl (Nat.le_refl _))).setCell _ _ (.inl (Nat.le_add_right _ _))).setCell _ _ (.inl (Nat.le_refl _))).drew
        go_roundg d
        case measure => omega
        case rel => exact ⟨by omega, RH.out.1.fr G (by omega), RH.out.2.1.pop.fr ((Fr.refl (fun _ => False) _).drew) (fun _ _ h => h), own_fr RH.out.2.2.1 G (fun k hk e => by have := V8.out k hk; omega), RH.out.2.2.2.1.trans (G.below P (by have := RH.out.2.2.2.2.1; omega) (fun k hk => by omega)), Nat.le_trans RH.out.2.2.2.2.1 G.size, fun h => by omega⟩
      · have hgt' : ¬ aL + b < L + (gk : Int) := hgt
        clear hgt
        go_wp2_with fail
        refine wp_cut (A := ?Ab2) (W := ?Wb2) ?regb2 ?restb2
        case regb2 =>
          go_region
          all_goals exact AtEnd.mk _ _
        go_wp2_with fail
        refine (push_any P o sb f5 q n cap L gk base xs wr.drew RH.out.1.drew v2 v3 s1 RH.out.2.2.1 hb RH.out.2.2.2.2.1 n3 (by omega) (by omega)).mono ?_
        rintro e W6 ⟨rfl, g6, cap6, J1, J2, J3, J4⟩
        go_wp2_with fail
        refine leaves_cons (f := 21) (args := #[.pointer (some ⟨P, o, none⟩)]) (by simp) (by simp [go_sem]) ?_
        refine (unlock_part P o _ .returning _ J1 (by rw [put1_other _ _ (by omega), put1_other _ _ (by omega), v0])).mono ?_
        rintro e u' W7 ⟨rfl, rfl, U1, U2, U3⟩
        have J3' : Fr (fun k => k = P ∨ (Value.slice q n cap).ownBlock = some k) wr W7 := (Fr.of_drew J3).trans (U2.mono (fun _ _ e => .inl e))
        have hsw : sb < wr.heap.size := World.block_lt_of_cell? wr _ s1
        refine ⟨_, results_none rfl _ _ _, rfl, RH.out.2.2.2.1.trans (J3'.below P (by have := RH.out.2.2.2.2.1; omega) (fun k hk h => ?_)), _, some ⟨g6, 0, none⟩, n + 1, cap6, gk, U1, ?_, (J3'.cell (p := ⟨sb, 1, none⟩) hsw (fun h => ?_)).trans s1, fun h => ?_, fun h => ?_⟩
        · rcases h with h | h
          · omega
          · have := (RH.out.2.2.1.lt k h).1; omega
        · rw [put1_other _ _ (by omega), put1_same]
        · rcases h with h | h
          · have h' : sb = P := h
            omega
          · have := V8.out _ h; simp at this
        · rfl
        · exact congrArg Nat.cast (RH.out.2.2.2.2.2 h)
end Go.Proofs.YbulkanmgRR
