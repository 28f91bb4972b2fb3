import Derived.Test.YbulkanmgRRMakeParts
import Derived.Test.YbulkanmgRRFill
import Derived.Deep.DeepCutAuto
namespace Go.Proofs.YbulkanmgRR
set_option linter.unusedVariables false
set_option linter.unusedSimpArgs false
open Go.RowKit

/-- The i-th element of the slice that came in. -/
def InAt (w : World) (b off i : Nat) : Prop :=
  ∃ (ca : Option Addr) (cb coff bl bc : Nat) (es el : Int), w.cell? ⟨b, off + i * 3, none⟩ = some (.slice ca bl bc) ∧ w.cell? ⟨b, off + i * 3 + 1, none⟩ = some (.int .u8 es) ∧ w.cell? ⟨b, off + i * 3 + 2, none⟩ = some (.int .u8 el) ∧
    (0 ≤ es ∧ es ≤ 255) ∧ (0 ≤ el ∧ el ≤ 255) ∧ bl ≤ bc ∧ (0 < bl → ca = some ⟨cb, coff, none⟩) ∧ ∀ j, j < bl → ∃ x : Int, w.cell? ⟨cb, coff + j, none⟩ = some (.int .u8 x) ∧ 0 ≤ x ∧ x ≤ 255

/-- The store when k of its n parts are made. -/
def Built (w wr : World) (P n k : Nat) : Prop :=
  ∃ (f : Nat → Option Value) (a : Nat → Pt), PM wr P f ∧ (∀ j, j < k → PartAt f j (a j) ∧ Fit (a j) ∧ ∃ base xs, P + 1 < base ∧ base ≤ wr.heap.size ∧ Row wr P base (a j) xs) ∧
    (∀ j, k ≤ j → j < n → Blank f j) ∧ wr.cell? ⟨P + 1, 0, none⟩ = some (.slice (some ⟨P, 0, none⟩) n n) ∧ Below w.heap.size w wr

theorem built_step {w wr wr' : World} {n k : Nat} {f f' : Nat → Option Value} {a : Nat → Pt} {p : Pt}
    (h : PM wr w.heap.size f ∧ (∀ j, j < k → PartAt f j (a j) ∧ Fit (a j) ∧ ∃ base xs, w.heap.size + 1 < base ∧ base ≤ wr.heap.size ∧ Row wr w.heap.size base (a j) xs) ∧ (∀ j, k ≤ j → j < n → Blank f j) ∧ wr.cell? ⟨w.heap.size + 1, 0, none⟩ = some (.slice (some ⟨w.heap.size, 0, none⟩) n n) ∧ Below w.heap.size w wr)
    (hF : Fr (· = w.heap.size) wr wr') (hP : PM wr' w.heap.size f') (hag : ∀ j o, j ≠ k → o < 78 → f' (j * 78 + o) = f (j * 78 + o)) (hp : PartAt f' k p) (hfit : Fit p)
    (hrow : ∃ base xs, w.heap.size + 1 < base ∧ base ≤ wr'.heap.size ∧ Row wr' w.heap.size base p xs) : Built w wr' w.heap.size n (k + 1) := by
  obtain ⟨h1, h2, h3, h4, h5⟩ := h
  have hl := World.block_lt_of_cell? wr _ h4
  refine ⟨f', updP a k p, hP, fun j hj => ?_, fun j hj hjn => ?_, (hF.cell hl (by simp)).trans h4, h5.trans (hF.below _ h5.size (fun k hk => by omega))⟩
  · by_cases e : j = k
    · subst e
      have e1 : updP a j p j = p := by simp [updP]
      rw [e1]
      exact ⟨hp, hfit, hrow⟩
    · have e1 : updP a k p j = a j := by simp [updP, e]
      rw [e1]
      obtain ⟨g1, g2, base, xs, g3, g4, g5⟩ := h2 j (by omega)
      refine ⟨⟨?_, ?_, ?_, ?_, ?_⟩, g2, base, xs, g3, Nat.le_trans g4 hF.size, g5.fr hF (by omega)⟩
      · have := hag j 0 e (by omega); simp only [Nat.add_zero] at this; rw [this]; exact g1.mu
      · rw [hag j 2 e (by omega)]; exact g1.sets
      · rw [hag j 3 e (by omega)]; exact g1.locks
      · rw [hag j 4 e (by omega)]; exact g1.asets
      · rw [hag j 5 e (by omega)]; exact g1.alocks
  · have e : j ≠ k := by omega
    have g := h3 j (by omega) hjn
    refine ⟨?_, ?_, ?_, ?_, ?_⟩
    · have := hag j 0 e (by omega); simp only [Nat.add_zero] at this; rw [this]; exact g.mu
    · rw [hag j 2 e (by omega)]; exact g.sets
    · rw [hag j 3 e (by omega)]; exact g.locks
    · rw [hag j 4 e (by omega)]; exact g.asets
    · rw [hag j 5 e (by omega)]; exact g.alocks

set_option maxRecDepth 10000 in
set_option maxHeartbeats 1600000 in
theorem build_any (pa : Option Addr) (b off len cap : Nat) (w : World) (hpa : 0 < len → pa = some ⟨b, off, none⟩) (hin : ∀ i, i < len → InAt w b off i) (hcap : len ≤ cap) :
    Calls Yba.prog 6 #[.slice pa len cap] w fun e w' => e = .returned (.pointer (some ⟨w.heap.size + 1, 0, none⟩)) ∧ ∃ n, 1 ≤ n ∧ n ≤ 8 ∧ Built w w' w.heap.size n n := by
  obtain ⟨n, hn⟩ : ∃ n : Nat, n = if len = 0 then 1 else if 8 < len then 8 else len := ⟨_, rfl⟩
  have hn1 : 1 ≤ n := by rw [hn]; split <;> (try split) <;> omega
  have hn8 : n ≤ 8 := by rw [hn]; split <;> (try split) <;> omega
  obtain ⟨c, hbl, hmk⟩ := make_parts n hn8
  have HN : Hid (n = if len = 0 then 1 else if 8 < len then 8 else len) := hn
  have HIN : Hid (∀ i, i < len → InAt w b off i) := hin
  have HBL : Hid (∀ i, i < n → Blank (fun k => c[k]?) i) := hbl
  clear hn hin hbl
  go_enter Yba.func6, Yba.ntmps6
  go_upto_if 15 with fail
  go_cut [3] (fun s wc => s = .int .i64 ((if 8 < len then 8 else len : Nat) : Int) ∧ wc = w)
  case first =>
    by_cases h8 : 8 < len
    · have h8I : (8 : Int) < (len : Int) := by omega
      go_wp2_with fail
      go_meet
      case rel => rw [if_pos h8]; exact ⟨rfl, rfl⟩
    · have h8I : ¬ (8 : Int) < (len : Int) := by omega
      go_wp2_with fail
      go_meet
      case rel => rw [if_neg h8]; exact ⟨rfl, rfl⟩
  case rest =>
    obtain ⟨hs3, hwc⟩ := hcut
    obtain ⟨n1, hn1'⟩ : ∃ n1 : Nat, (if 8 < len then 8 else len) = n1 := ⟨_, rfl⟩
    rw [hn1'] at hs3
    subst hs3
    rw [hwc]
    have HM : Hid ((if 8 < len then 8 else len) = n1) := hn1'
    clear hwc hn1'
    go_upto_if 17 with fail
    go_cut [3] (fun s wc => s = .int .i64 (n : Int) ∧ wc = w)
    case first =>
      by_cases h0 : len = 0
      · have h0b : ((n1 : Int) == 0) = true := by rw [← HM.out, if_neg (by omega), h0]; rfl
        have HE : Hid (n = 1) := by have := HN.out; rw [if_pos h0] at this; exact this
        clear h0
        go_wp2_with fail
        go_meet
        case rel => rw [HE.out]; exact ⟨rfl, rfl⟩
      · have h0b : ((n1 : Int) == 0) = false := by
          rw [← HM.out]
          simp only [beq_eq_false_iff_ne, ne_eq]
          split <;> omega
        have HE : Hid (n = n1) := by have := HN.out; rw [if_neg h0] at this; exact this.trans HM.out
        clear h0
        go_wp2_with fail
        go_meet
        case rel => rw [HE.out]; exact ⟨rfl, rfl⟩
    case rest =>
      obtain ⟨hs3, hwc⟩ := hcut
      subst hs3
      rw [hwc]
      clear hwc
      go_wp2_with fail
      have hstart : Built w ((w.alloc (Obj.cells c 50)).alloc (Obj.cells #[Value.slice (some { block := w.heap.size, off := 0 }) n n, Value.pointer none, Value.int IntKind.u64 0, Value.pointer none, Value.int IntKind.u64 0, Value.nilFunc, Value.int IntKind.u32 0] 39)) w.heap.size n 0 := by
        refine ⟨fun k => c[k]?, fun _ => ⟨none, 0, 0, 0, 0, 0⟩, (PM.new w c 50).alloc _, fun j hj => by omega, fun j _ hj => HBL.out j hj, ?_, ((Below.refl _ w).alloc (Nat.le_refl _) _).alloc (by simp) _⟩
        have := PM.new (w.alloc (Obj.cells c 50)) #[Value.slice (some { block := w.heap.size, off := 0 }) n n, Value.pointer none, Value.int IntKind.u64 0, Value.pointer none, Value.int IntKind.u64 0, Value.nilFunc, Value.int IntKind.u32 0] 39
        rw [World.size_alloc] at this
        exact this.cell 0
      have HST : Hid (Built w ((w.alloc (Obj.cells c 50)).alloc (Obj.cells #[Value.slice (some { block := w.heap.size, off := 0 }) n n, Value.pointer none, Value.int IntKind.u64 0, Value.pointer none, Value.int IntKind.u64 0, Value.nilFunc, Value.int IntKind.u32 0] 39)) w.heap.size n 0) := hstart
      clear hstart hmk
      go_loopw [5] (fun i wr => ∃ k : Nat, k ≤ n ∧ i = .int .i64 k ∧ Built w wr w.heap.size n k) (fun i _ => n - (intOf i).toNat)
      case atStart => exact ⟨0, Nat.zero_le _, rfl, HST.out⟩
      case round =>
        clear HST
        obtain ⟨k, hk, rfl, hB⟩ := hrel
        obtain ⟨f, a, B1, B2, B3, B4, B5⟩ := hB
        have HB : Hid (PM wr w.heap.size f ∧ (∀ j, j < k → PartAt f j (a j) ∧ Fit (a j) ∧ ∃ base xs, w.heap.size + 1 < base ∧ base ≤ wr.heap.size ∧ Row wr w.heap.size base (a j) xs) ∧ (∀ j, k ≤ j → j < n → Blank f j) ∧ wr.cell? ⟨w.heap.size + 1, 0, none⟩ = some (.slice (some ⟨w.heap.size, 0, none⟩) n n) ∧ Below w.heap.size w wr) := ⟨B1, B2, B3, B4, B5⟩
        have B4' := B4
        clear B1 B2 B3 B4 B5
        by_cases hkn : k < n
        · have hkI : (k : Int) < (n : Int) := by omega
          by_cases hkl : k < len
          · have hklI : (k : Int) < (len : Int) := by omega
            obtain ⟨ca, cb, coff, bl, bc, es, el, i1, i2, i3, i4, i5, i6, i7, i8⟩ := HIN.out k hkl
            obtain rfl := hpa (by omega)
            have hw : w.heap.size ≤ wr.heap.size := HB.out.2.2.2.2.size
            have kept : ∀ (x : Addr) v, w.cell? x = some v → wr.cell? x = some v := fun x v hv => (HB.out.2.2.2.2.cell (World.block_lt_of_cell? w _ hv)).trans hv
            have j1 := kept _ _ i1
            have j2 := kept _ _ i2
            have j3 := kept _ _ i3
            have j8 : Hid (∀ j, j < bl → ∃ x : Int, wr.cell? ⟨cb, coff + j, none⟩ = some (.int .u8 x) ∧ 0 ≤ x ∧ x ≤ 255 ∧ cb < w.heap.size) := by
              intro j hj
              obtain ⟨x, h1, h2, h3⟩ := i8 j hj
              exact ⟨x, kept _ _ h1, h2, h3, World.block_lt_of_cell? w _ h1⟩
            have hltP := HB.out.1.lt
            clear i1 i2 i3 i8 kept
            go_upto_if 45 with fail
            obtain ⟨W1, hW1⟩ : ∃ W1, wr.alloc (Obj.cells #[Value.slice ca bl bc, Value.int IntKind.u8 es, Value.int IntKind.u8 el] 104) = W1 := ⟨_, rfl⟩
            have Q0 : PM W1 wr.heap.size (fun k => #[Value.slice ca bl bc, Value.int IntKind.u8 es, Value.int IntKind.u8 el][k]?) := by rw [← hW1]; exact PM.new wr _ _
            have F1 : Fr (fun _ => False) wr W1 := by rw [← hW1]; exact (Fr.refl _ wr).alloc _
            have Z1 : W1.heap.size = wr.heap.size + 1 := by rw [← hW1]; simp
            have hbk := HB.out.2.2.1 k (Nat.le_refl _) hkn
            have HF : Hid (Filled W1 W1 w.heap.size (k * 78) f 0) := ⟨f, none, 0, 0, [], HB.out.1.fr F1 (fun h => h), fun _ _ _ => rfl, hbk.sets, hbk.locks, by omega, by omega, World.ownsRow_nil _ _ _ _, (fun x hx => by cases hx), Fr.refl _ _⟩
            have HQ : Hid (PM W1 wr.heap.size (fun k => #[Value.slice ca bl bc, Value.int IntKind.u8 es, Value.int IntKind.u8 el][k]?) ∧ Fr (fun _ => False) wr W1 ∧ W1.heap.size = wr.heap.size + 1 ∧ Blank f k) := ⟨Q0, F1, Z1, hbk⟩
            rw [hW1]
            clear hW1 Q0 F1 Z1 hbk j1 j2 j3
            obtain ⟨m, hm⟩ : ∃ m, min bl 70 = m := ⟨_, rfl⟩
            go_cut [8] (fun s wc => s = .slice ca m bc ∧ wc = W1)
            case first =>
              by_cases h70 : 70 < bl
              · have h70I : (70 : Int) < (bl : Int) := by omega
                have hbc : (70 : Int) ≤ (bc : Int) := by omega
                have hbc0 : ¬ bc = 0 := by omega
                obtain rfl := i7 (by omega)
                obtain rfl : m = 70 := by omega
                go_wp2_with fail
                go_meet
                case rel => exact ⟨rfl, rfl⟩
              · have h70I : ¬ (70 : Int) < (bl : Int) := by omega
                obtain rfl : m = bl := by omega
                go_wp2_with fail
                go_meet
                case rel => exact ⟨rfl, rfl⟩
            case rest =>
              obtain ⟨hs8, hwc⟩ := hcut
              subst hs8
              rw [hwc]
              clear hwc
              go_wp2_with fail
              go_loopw [50] (fun i w2 => ∃ j : Nat, j ≤ m ∧ i = .int .i64 j ∧ Filled W1 w2 w.heap.size (k * 78) f j) (fun i _ => m - (intOf i).toNat)
              case atStart => exact ⟨0, Nat.zero_le _, rfl, HF.out⟩
              case round =>
                clear HF
                obtain ⟨j, hj, rfl, hFl⟩ := hrel
                have HFl : Hid (Filled W1 wr w.heap.size (k * 78) f j) := hFl
                have hFr : Fr (· = w.heap.size) W1 wr := by obtain ⟨_, _, _, _, _, _, _, _, _, _, _, _, _, h9⟩ := hFl; exact h9
                clear hFl
                by_cases hjm : j < m
                · have hjI : (j : Int) < (m : Int) := by omega
                  obtain ⟨x, hx1, hx2, hx3, hx4⟩ := j8.out j (by omega)
                  obtain rfl := i7 (by omega)
                  have cx : wr.cell? ⟨cb, coff + j, none⟩ = some (.int .u8 x) := (hFr.cell (p := ⟨cb, coff + j, none⟩) (by have := HQ.out.2.2.1; simp; omega) (by simp; omega)).trans ((HQ.out.2.1.cell (p := ⟨cb, coff + j, none⟩) (by simp; omega) (fun h => h)).trans hx1)
                  obtain ⟨xn, rfl⟩ : ∃ xn : Nat, x = xn := ⟨x.toNat, by omega⟩
                  have hset := set_any (xn % 32) wr (by omega)
                  have e32 : (xn : Int).tmod 32 = ((xn % 32 : Nat) : Int) := by rw [Int.tmod_eq_emod_of_nonneg (by omega)]; omega
                  rw [← e32] at hset
                  have HSET : Hid (xn % 32 ≤ 31 ∧ w.heap.size < W1.heap.size ∧ j ≤ 1000) := ⟨by omega, by have := HQ.out.2.2.1; omega, by omega⟩
                  clear hx1 hx4 e32 i7
                  go_wp2_with (first | (go_at_call 7; go_must (refine hset.mono ?_; clear hset; rintro e w3 ⟨rfl, s1, s2, s3⟩)) | (go_at_call 14; go_must (refine (filled_push HFl.out HSET.out.2.1 s1 s3 HSET.out.1 HSET.out.2.2).mono ?_; rintro e w4 ⟨rfl, hF4⟩)))
                  go_roundw
                  case rel => exact ⟨j + 1, by omega, by go_num, hF4⟩
                  case measure => simp [intOf]; omega
                · have hjI : ¬ (j : Int) < (m : Int) := by omega
                  obtain rfl : j = m := by omega
                  obtain ⟨f', q', cap', L, xs, g1, g2, g3, g4, g5, g6, g7, g8, g9⟩ := HFl.out
                  have c2 := (g1.cell (k * 78 + 2)).trans g3
                  have c3 := (g1.cell (k * 78 + 3)).trans g4
                  have gq := HQ.out.1.fr g9 (by omega)
                  have d1 := gq.cell 1
                  have d2 := gq.cell 2
                  have HG : Hid (PM wr w.heap.size f') := g1
                  clear g1 gq
                  simp at d1 d2
                  obtain ⟨en, rfl⟩ : ∃ en : Nat, es = en := ⟨es.toNat, by omega⟩
                  obtain ⟨eo, rfl⟩ : ∃ eo : Nat, el = eo := ⟨el.toNat, by omega⟩
                  go_wp2_with fail
                  refine wp_cut (A := ?A1) (W := ?W1) ?reg1 ?rest1
                  case reg1 =>
                    go_region
                    all_goals exact AtEnd.mk _ _
                  obtain ⟨A0, hA0⟩ : ∃ A0 : Int, (j : Int) + (en : Int) % 4 = A0 := ⟨_, rfl⟩
                  rw [hA0]
                  have hj70 : j ≤ 70 := by omega
                  have ha0 : 0 ≤ A0 ∧ (j : Int) ≤ A0 ∧ A0 ≤ 1000 := by omega
                  obtain ⟨v4, e4⟩ := Option.isSome_iff_exists.1 HQ.out.2.2.2.asets
                  obtain ⟨v5, e5⟩ := Option.isSome_iff_exists.1 HQ.out.2.2.2.alocks
                  have c4 := (HG.out.cell (k * 78 + 4)).trans ((g2 _ (by omega) (by omega)).trans e4)
                  have c5 := (HG.out.cell (k * 78 + 5)).trans ((g2 _ (by omega) (by omega)).trans e5)
                  have z4 := HG.out.free (k * 78 + 4)
                  have z5 := HG.out.free (k * 78 + 5)
                  have HV : Hid (f' (k * 78 + 4) = some v4 ∧ f' (k * 78 + 5) = some v5) := ⟨(g2 _ (by omega) (by omega)).trans e4, (g2 _ (by omega) (by omega)).trans e5⟩
                  have HA0 : Hid ((j : Int) + (en : Int) % 4 = A0) := hA0
                  have HR : Hid ((∀ x, x ≠ k * 78 + 2 → x ≠ k * 78 + 3 → f' x = f x) ∧ f' (k * 78 + 2) = some (.slice q' j cap') ∧ f' (k * 78 + 3) = some (.int .i64 L) ∧ wr.ownsRow W1.heap.size 51 1 (.slice q' j cap') j xs ∧
                    (∀ x, x ∈ xs → ∃ (b0 : Nat) (c0 : Int), x = .pointer (some ⟨b0, 0, none⟩) ∧ wr.cell? ⟨b0, 1, none⟩ = some (.int .i64 c0) ∧ 0 ≤ c0 ∧ c0 ≤ 1000 ∧ b0 ≠ w.heap.size ∧ (Value.slice q' j cap').ownBlock ≠ some b0) ∧ Fr (· = w.heap.size) W1 wr) := ⟨g2, g3, g4, g7, g8, g9⟩
                  clear e4 e5 g2 g3 g4 g7 g8 g9 hA0 c2
                  by_cases hA : A0 < 1
                  · have hA' : A0 < 1 := hA
                    go_wp2_with fail
                    refine wp_cut (A := ?A2) (W := ?W2) ?reg2 ?rest2
                    case reg2 =>
                      go_region
                      all_goals exact AtEnd.mk _ _
                    go_wp2_with fail
                    have G : Fr (· = w.heap.size) wr ((wr.setCell ⟨w.heap.size, k * 78 + 4, none⟩ (.int .i64 1)).setCell ⟨w.heap.size, k * 78 + 4 + 1, none⟩ (.int .i64 (L + (eo : Int) % 64))).drew.drew := (((Fr.refl (· = w.heap.size) wr).setCell _ _ (.inl rfl)).setCell _ _ (.inl rfl)).drew.drew
                    have hl2 := World.block_lt_of_cell? _ _ HB.out.2.2.2.1
                    have hz1 := HQ.out.2.2.1
                    have hbl := HQ.out.2.2.2
                    have hR : Row wr w.heap.size W1.heap.size ⟨q', j, cap', L, 1, L + (eo : Int) % 64⟩ xs := ⟨HR.out.2.2.2.1, fun x hx => by obtain ⟨b0, c0, r1, r2, r3, r4, r5, _⟩ := HR.out.2.2.2.2.1 x hx; exact ⟨b0, c0, r1, r2, r3, r4, r5⟩⟩
                    have hl3 : w.heap.size + 1 < W1.heap.size := by simp at hl2; omega
                    refine ⟨⟨k + 1, by omega, by go_num, built_step (p := ⟨q', j, cap', L, 1, L + (eo : Int) % 64⟩) HB.out (((HQ.out.2.1.mono (fun _ _ h => h.elim)).trans HR.out.2.2.2.2.2).trans G) ((HG.out.set (k * 78 + 4) _ (by rw [HV.out.1]; rfl)).set (k * 78 + 5) _ (by rw [put1_other _ _ (by omega), HV.out.2]; rfl)).drew.drew ?_ ?_ ?_ ?_⟩, by simp [intOf]; omega⟩
                    · intro jj o hjj ho
                      rw [put1_other _ _ (by omega), put1_other _ _ (by omega)]
                      exact HR.out.1 _ (by omega) (by omega)
                    · refine ⟨?_, ?_, ?_, ?_, ?_⟩
                      · rw [put1_other _ _ (by omega), put1_other _ _ (by omega), HR.out.1 _ (by omega) (by omega)]; exact hbl.mu
                      · rw [put1_other _ _ (by omega), put1_other _ _ (by omega)]; exact HR.out.2.1
                      · rw [put1_other _ _ (by omega), put1_other _ _ (by omega)]; exact HR.out.2.2.1
                      · rw [put1_other _ _ (by omega), put1_same]
                      · rw [put1_same]
                    · exact ⟨by show j ≤ 1000; omega, g5, by show L ≤ L + (eo : Int) % 64; omega, by show L + (eo : Int) % 64 ≤ 1000000; omega, by show max (j : Int) 1 ≤ 1; omega, by show 1 ≤ 1000000; omega⟩
                    · exact ⟨W1.heap.size, xs, hl3, Nat.le_trans HR.out.2.2.2.2.2.size G.size, hR.fr G (by omega)⟩
                  · have hA' : ¬ A0 < 1 := hA
                    go_wp2_with fail
                    refine wp_cut (A := ?A3) (W := ?W3) ?reg3 ?rest3
                    case reg3 =>
                      go_region
                      all_goals exact AtEnd.mk _ _
                    go_wp2_with fail
                    have G : Fr (· = w.heap.size) wr ((wr.setCell ⟨w.heap.size, k * 78 + 4, none⟩ (.int .i64 A0)).setCell ⟨w.heap.size, k * 78 + 4 + 1, none⟩ (.int .i64 (L + (eo : Int) % 64))).drew.drew := (((Fr.refl (· = w.heap.size) wr).setCell _ _ (.inl rfl)).setCell _ _ (.inl rfl)).drew.drew
                    have hl2 := World.block_lt_of_cell? _ _ HB.out.2.2.2.1
                    have hz1 := HQ.out.2.2.1
                    have hbl := HQ.out.2.2.2
                    have hR : Row wr w.heap.size W1.heap.size ⟨q', j, cap', L, A0, L + (eo : Int) % 64⟩ xs := ⟨HR.out.2.2.2.1, fun x hx => by obtain ⟨b0, c0, r1, r2, r3, r4, r5, _⟩ := HR.out.2.2.2.2.1 x hx; exact ⟨b0, c0, r1, r2, r3, r4, r5⟩⟩
                    have hl3 : w.heap.size + 1 < W1.heap.size := by simp at hl2; omega
                    refine ⟨⟨k + 1, by omega, by go_num, built_step (p := ⟨q', j, cap', L, A0, L + (eo : Int) % 64⟩) HB.out (((HQ.out.2.1.mono (fun _ _ h => h.elim)).trans HR.out.2.2.2.2.2).trans G) ((HG.out.set (k * 78 + 4) _ (by rw [HV.out.1]; rfl)).set (k * 78 + 5) _ (by rw [put1_other _ _ (by omega), HV.out.2]; rfl)).drew.drew ?_ ?_ ?_ ?_⟩, by simp [intOf]; omega⟩
                    · intro jj o hjj ho
                      rw [put1_other _ _ (by omega), put1_other _ _ (by omega)]
                      exact HR.out.1 _ (by omega) (by omega)
                    · refine ⟨?_, ?_, ?_, ?_, ?_⟩
                      · rw [put1_other _ _ (by omega), put1_other _ _ (by omega), HR.out.1 _ (by omega) (by omega)]; exact hbl.mu
                      · rw [put1_other _ _ (by omega), put1_other _ _ (by omega)]; exact HR.out.2.1
                      · rw [put1_other _ _ (by omega), put1_other _ _ (by omega)]; exact HR.out.2.2.1
                      · rw [put1_other _ _ (by omega), put1_same]
                      · rw [put1_same]
                    · exact ⟨by show j ≤ 1000; omega, g5, by show L ≤ L + (eo : Int) % 64; omega, by show L + (eo : Int) % 64 ≤ 1000000; omega, by show max (j : Int) 1 ≤ A0; omega, by show A0 ≤ 1000000; omega⟩
                    · exact ⟨W1.heap.size, xs, hl3, Nat.le_trans HR.out.2.2.2.2.2.size G.size, hR.fr G (by omega)⟩
          · have hklI : ¬ (k : Int) < (len : Int) := by omega
            have hbk := HB.out.2.2.1 k (Nat.le_refl _) hkn
            obtain ⟨v4, e4⟩ := Option.isSome_iff_exists.1 hbk.asets
            obtain ⟨v5, e5⟩ := Option.isSome_iff_exists.1 hbk.alocks
            have c4 := (HB.out.1.cell (k * 78 + 4)).trans e4
            have c5 := (HB.out.1.cell (k * 78 + 5)).trans e5
            have f4 := HB.out.1.free (k * 78 + 4)
            have f5 := HB.out.1.free (k * 78 + 5)
            have HK : Hid (Blank f k ∧ f (k * 78 + 4) = some v4 ∧ f (k * 78 + 5) = some v5) := ⟨hbk, e4, e5⟩
            clear hbk e4 e5
            go_wp2_with fail
            go_roundw
            case rel =>
              refine ⟨k + 1, by omega, by go_num, built_step (p := ⟨none, 0, 0, 0, 1, 0⟩) HB.out (((Fr.refl (· = w.heap.size) wr).setCell _ _ (.inl rfl)).setCell _ _ (.inl rfl)) ((HB.out.1.set (k * 78 + 4) _ (by rw [HK.out.2.1]; rfl)).set (k * 78 + 5) _ (by rw [put1_other _ _ (by omega), HK.out.2.2]; rfl)) ?_ ?_ ?_ ?_⟩
              · intro j o hj ho
                rw [put1_other _ _ (by omega), put1_other _ _ (by omega)]
              · refine ⟨?_, ?_, ?_, ?_, ?_⟩
                · rw [put1_other _ _ (by omega), put1_other _ _ (by omega)]; exact HK.out.1.mu
                · rw [put1_other _ _ (by omega), put1_other _ _ (by omega)]; exact HK.out.1.sets
                · rw [put1_other _ _ (by omega), put1_other _ _ (by omega)]; exact HK.out.1.locks
                · rw [put1_other _ _ (by omega), put1_same]
                · rw [put1_same]
              · exact ⟨by simp, by simp, by simp, by simp, by show max ((0 : Nat) : Int) 1 ≤ 1; omega, by simp⟩
              · have := World.block_lt_of_cell? wr _ HB.out.2.2.2.1
                exact ⟨wr.heap.size, [], this, by simp, World.ownsRow_nil _ _ _ _, fun x hx => by cases hx⟩
            case measure => simp [intOf]; omega
        · have hkI : ¬ (k : Int) < (n : Int) := by omega
          go_wp2_with fail
          go_ret
          obtain rfl : k = n := by omega
          exact ⟨rfl, k, hn1, hn8, f, a, HB.out⟩
end Go.Proofs.YbulkanmgRR
