import Derived.Test.YbulkanmgRRBuildS
namespace Go.Proofs.YbulkanmgRR
set_option linter.unusedVariables false
set_option linter.unusedSimpArgs false
open Go.RowKit

def sumA (r : Nat → Int) : Nat → Int
  | 0 => 0
  | k + 1 => sumA r k + r k

theorem sumA_split (h : Nat) (r : Nat → Int) (n : Nat) : sumA r n = sumO h r n + if h < n then r h else 0 := by
  induction n with
  | zero => simp [sumA, sumO]
  | succ k ih =>
    simp only [sumA, sumO, ih]
    by_cases e : k = h
    · subst e
      simp
    · by_cases hk : h < k
      · rw [if_pos hk, if_neg e, if_pos (by omega)]; omega
      · rw [if_neg hk, if_neg e, if_neg (by omega)]; omega

theorem sumA_bound (r : Nat → Int) (n : Nat) (e : ∀ i, i < n → 0 ≤ r i ∧ r i ≤ 1000000) : 0 ≤ sumA r n ∧ sumA r n ≤ 1000000 * n := by
  induction n with
  | zero => simp [sumA]
  | succ k ih =>
    have := ih (fun i hi => e i (by omega))
    have := e k (by omega)
    simp only [sumA]
    omega

theorem sumO_bound (h : Nat) (r : Nat → Int) (n : Nat) (e : ∀ i, i < n → 0 ≤ r i ∧ r i ≤ 1000000) : 0 ≤ sumO h r n ∧ sumO h r n ≤ 1000000 * n := by
  induction n with
  | zero => simp [sumO]
  | succ k ih =>
    have := ih (fun i hi => e i (by omega))
    have := e k (by omega)
    simp only [sumO]
    split <;> omega

theorem Fit.room {p : Pt} (h : Fit p) : (0 ≤ roomS p ∧ roomS p ≤ 1000000) ∧ (0 ≤ roomL p ∧ roomL p ≤ 1000000) := by
  have x1 := h.len
  have x2 := h.L0
  have x3 := h.LA
  have x4 := h.A
  have x5 := h.S
  have x6 := h.S1
  simp only [roomS, roomL]
  omega

set_option maxRecDepth 10000 in
set_option maxHeartbeats 1600000 in
theorem law_room (pa : Option Addr) (b off len cap hm cn : Nat) (w : World) (hpa : 0 < len → pa = some ⟨b, off, none⟩) (hin : ∀ i, i < len → InAt w b off i) (hcap : len ≤ cap) (hh : hm ≤ 255) (hc : cn ≤ 255) :
    Calls Yba.prog 3 #[.slice pa len cap, .int .u8 hm, .int .u8 cn] w fun e w' => e = .returned (.bool true) ∧ Below w.heap.size w w' := by
  have hbuild := build_any pa b off len cap w hpa hin hcap
  clear hpa hin
  go_enter Yba.func3, Yba.ntmps3
  go_wp2_with fail
  refine hbuild.mono ?_
  clear hbuild
  rintro e w1 ⟨rfl, n, n1, n8, f, a, B1, B2, B3, B4, B5⟩
  obtain ⟨h, hhd⟩ : ∃ h : Nat, h = hm % n := ⟨_, rfl⟩
  have hhn : h < n := by rw [hhd]; exact Nat.mod_lt _ (by omega)
  have hh0 : ¬ (n : Int) = 0 := by omega
  have hmod : (hm : Int) % (n : Int) = (h : Int) := by rw [hhd]; rfl
  have hI : (h : Int) < (n : Int) := by omega
  obtain ⟨ph, fh, base, xs, b1, b2, b3⟩ := B2 h hhn
  have c2 := (B1.cell (h * 78 + 2)).trans ph.sets
  have c4 := (B1.cell (h * 78 + 4)).trans ph.asets
  have hl0 := B1.lt
  have HB : Hid (PM w1 w.heap.size f ∧ (∀ j, j < n → PartAt f j (a j) ∧ Fit (a j) ∧ ∃ base xs, w.heap.size + 1 < base ∧ base ≤ w1.heap.size ∧ Row w1 w.heap.size base (a j) xs) ∧ w1.cell? ⟨w.heap.size + 1, 0, none⟩ = some (.slice (some ⟨w.heap.size, 0, none⟩) n n) ∧ Below w.heap.size w w1 ∧ Row w1 w.heap.size base (a h) xs) := ⟨B1, B2, B4, B5, b3⟩
  have x1 := fh.len
  have x5 := fh.S
  have x6 := fh.S1
  have HH : Hid (h = hm % n) := hhd
  clear B1 B2 B3 B5 ph b3 hhd fh
  go_wp2_with fail
  simp only [hmod]
  go_wp2_with fail
  refine wp_cut (A := ?A1) (W := ?W1) ?reg1 ?rest1
  case reg1 =>
    go_region
    all_goals exact AtEnd.mk _ _
  go_wp2_with fail
  have HX : Hid (((a h).len ≤ 1000) ∧ max ((a h).len : Int) 1 ≤ (a h).aS ∧ (a h).aS ≤ 1000000 ∧ w.heap.size < w1.heap.size) := ⟨x1, x5, x6, hl0⟩
  clear x1 x5 x6 c2 c4
  go_loopw [12, 13, 56] (fun s l i wr => ∃ k : Nat, k ≤ n ∧ i = .int .i64 k ∧ s = .int .i64 ((a h).aS - (a h).len + sumO h (fun i => roomS (a i)) k) ∧ l = .int .i64 (sumA (fun i => roomL (a i)) k) ∧ Fr (fun _ => False) w1 wr) (fun _ _ i _ => n - (intOf i).toNat)
  case atStart => exact ⟨0, Nat.zero_le _, rfl, by simp [sumO], rfl, (Fr.refl _ w1).drew⟩
  case round =>
    obtain ⟨k, hk, rfl, rfl, rfl, hF⟩ := hrel
    have HF : Hid (Fr (fun _ => False) w1 wr) := hF
    have cS : wr.cell? ⟨w.heap.size + 1, 0, none⟩ = some (.slice (some ⟨w.heap.size, 0, none⟩) n n) := (hF.cell (World.block_lt_of_cell? w1 _ B4) (fun h => h)).trans B4
    have hsb := sumO_bound h (fun i => roomS (a i)) k (fun i hi => (HB.out.2.1 i (by omega)).2.1.room.1)
    have hlb := sumA_bound (fun i => roomL (a i)) k (fun i hi => (HB.out.2.1 i (by omega)).2.1.room.2)
    by_cases hkn : k < n
    · have hkI : (k : Int) < (n : Int) := by omega
      obtain ⟨pk, fk, _⟩ := HB.out.2.1 k hkn
      have hPk := HB.out.1.fr hF (fun h => h)
      have c2 := (hPk.cell (k * 78 + 2)).trans pk.sets
      have c3 := (hPk.cell (k * 78 + 3)).trans pk.locks
      have c4 := (hPk.cell (k * 78 + 4)).trans pk.asets
      have c5 := (hPk.cell (k * 78 + 5)).trans pk.alocks
      have x1 := fk.len
      have x2 := fk.L0
      have x3 := fk.LA
      have x4 := fk.A
      have x5 := fk.S
      have x6 := fk.S1
      obtain ⟨S, hS⟩ : ∃ S : Int, (a h).aS - (a h).len + sumO h (fun i => roomS (a i)) k = S := ⟨_, rfl⟩
      obtain ⟨L, hL⟩ : ∃ L : Int, sumA (fun i => roomL (a i)) k = L := ⟨_, rfl⟩
      have hSb : -1000000 ≤ S ∧ S ≤ 10000000 := by have := HX.out; omega
      have hLb : 0 ≤ L ∧ L ≤ 10000000 := by omega
      have HS : Hid ((a h).aS - (a h).len + sumO h (fun i => roomS (a i)) k = S ∧ sumA (fun i => roomL (a i)) k = L) := ⟨hS, hL⟩
      rw [hS, hL]
      clear hS hL hsb hlb pk fk hPk hF
      go_wp2_with fail
      refine wp_cut (A := ?A2) (W := ?W2) ?reg2 ?rest2
      case reg2 =>
        go_region
        all_goals exact AtEnd.mk _ _
      by_cases hkh : k = h
      · subst hkh
        go_wp2_with fail
        refine ⟨⟨k + 1, by omega, by go_num, ?_, ?_, HF.out.drew⟩, by simp [intOf]; omega⟩
        · simp only [sumO, if_true, Int.add_zero]; rw [HS.out.1]
        · simp only [sumA]; rw [HS.out.2]; rfl
      · have hne : ((k : Int) != (h : Int)) = true := by simp; omega
        go_wp2_with fail
        refine wp_cut (A := ?A3) (W := ?W3) ?reg3 ?rest3
        case reg3 =>
          go_region
          all_goals exact AtEnd.mk _ _
        go_wp2_with fail
        refine ⟨⟨k + 1, by omega, by go_num, ?_, ?_, HF.out.drew.drew⟩, by simp [intOf]; omega⟩
        · simp only [sumO, if_neg hkh, roomS]
          have := HS.out.1
          simp only [roomS] at this
          congr 1
          split <;> omega
        · simp only [sumA]; rw [HS.out.2]; rfl
    · have hkI : ¬ (k : Int) < (n : Int) := by omega
      have hkn' : k = n := by omega
      subst hkn'
      obtain ⟨S, hS⟩ : ∃ S : Int, (a h).aS - (a h).len + sumO h (fun i => roomS (a i)) k = S := ⟨_, rfl⟩
      obtain ⟨L, hL⟩ : ∃ L : Int, sumA (fun i => roomL (a i)) k = L := ⟨_, rfl⟩
      have hL2 : (a h).aL - (a h).L + sumO h (fun i => roomL (a i)) k = L := by
        rw [← hL, sumA_split h, if_pos hhn]; simp only [roomL]; omega
      rw [hS, hL]
      have HW : Hid (PM wr w.heap.size f ∧ Row wr w.heap.size base (a h) xs ∧ wr.cell? ⟨w.heap.size + 1, 0, none⟩ = some (.slice (some ⟨w.heap.size, 0, none⟩) k k) ∧ base ≤ wr.heap.size ∧ Below w.heap.size w wr ∧ w.heap.size < wr.heap.size) :=
        ⟨HB.out.1.fr hF (fun h => h), HB.out.2.2.2.2.fr (hF.mono (fun _ _ h => h.elim)) (by omega), cS, Nat.le_trans b2 hF.size, HB.out.2.2.2.1.trans (hF.below _ (by omega) (fun _ _ h => h)), Nat.lt_of_lt_of_le hl0 hF.size⟩
      have HL : Hid ((a h).aS - (a h).len + sumO h (fun i => roomS (a i)) k = S ∧ (a h).aL - (a h).L + sumO h (fun i => roomL (a i)) k = L) := ⟨hS, hL2⟩
      clear hS hL hL2 hF hsb hlb
      go_wp2_with fail
      refine (set_any cn wr (by omega)).mono ?_
      rintro e w2 ⟨rfl, s1, s2, s3⟩
      have F2 : Fr (· = w.heap.size) wr w2 := Fr.of_below s1
      have hput := putInto_any w.heap.size (w.heap.size + 1) k h wr.heap.size cn f a base xs w2 (HW.out.1.fr (Fr.of_below (S := fun _ => False) s1) (fun h => h)) (fun i hi => (HB.out.2.1 i hi).1) (fun i hi => (HB.out.2.1 i hi).2.1) hhn n8
        ((s1.cell (World.block_lt_of_cell? wr _ HW.out.2.2.1)).trans HW.out.2.2.1) (by omega) s3 (by omega) (HW.out.2.1.fr F2 (by omega)) (by omega) (Nat.le_trans HW.out.2.2.2.1 s1.size) HW.out.2.2.2.1
        (fun j hj => (HW.out.2.1.own.lt j hj).2)
      have HS2 : Hid (Below wr.heap.size wr w2) := s1
      clear s1 s2 s3 F2 cS
      go_wp2_with fail
      refine hput.mono ?_
      clear hput
      rintro e w3 ⟨rfl, t1, f', q', m, cap', c', t2, t3, t4, t5, t6⟩
      rw [HL.out.1] at t5
      rw [HL.out.2] at t6
      have d2 := (t2.cell (h * 78 + 2)).trans t3
      have x1 := HX.out.1
      have HE : Hid (Below w.heap.size w w3) := (HW.out.2.2.2.2.1.trans (HS2.out.mono (Nat.le_of_lt HW.out.2.2.2.2.2))).trans t1
      clear t1 t2 t3
      by_cases hS1 : 1 ≤ S
      · have hm1 : ((m : Int) != ((a h).len : Int) + 1) = false := by have := t5 hS1; simp; omega
        clear t5
        by_cases hL1 : (cn : Int) ≤ L
        · have hc1 : (c' != (cn : Int)) = false := by have := t6 hL1; simp; omega
          clear t6
          go_wp2_with fail
          go_ret
          exact ⟨rfl, HE.out⟩
        · clear t6
          go_wp2_with fail
          go_ret
          exact ⟨rfl, HE.out⟩
      · clear t5
        by_cases hL1 : (cn : Int) ≤ L
        · have hc1 : (c' != (cn : Int)) = false := by have := t6 hL1; simp; omega
          clear t6
          go_wp2_with fail
          go_ret
          exact ⟨rfl, HE.out⟩
        · clear t6
          go_wp2_with fail
          go_ret
          exact ⟨rfl, HE.out⟩
end Go.Proofs.YbulkanmgRR
