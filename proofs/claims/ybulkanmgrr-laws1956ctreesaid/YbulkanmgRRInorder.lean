import Derived.Test.YbulkanmgRRFocus
import Derived.Test.YbulkanmgRRExpected
namespace Go.Proofs.YbulkanmgRR
set_option linter.unusedVariables false
set_option linter.unusedSimpArgs false
open Go.RowKit Go.Deep

theorem Mem.under {w w' : World} {B n T base : Nat} {f : Nat → Nat → Option Nat} {wt : Nat → Option Addr} {g : Nat → Option Nat} {wait : Int} (h : Mem w B n T f wt g wait) (hb : Below base w w') (h1 : B < base) (h2 : T < base) (h3 : ∀ i, i < n → bk B i < base) : Mem w' B n T f wt g wait := by
  refine ⟨fun i hi => ?_, fun i o' hi ho' => (hb.cell (p := ⟨bk B i, o', none⟩) (h3 i hi)).trans (h.ptr i o' hi ho'), fun i hi => (hb.cell (p := ⟨bk B i, 4, none⟩) (h3 i hi)).trans (h.wts i hi), fun i hi => ?_, ?_, fun o' h1 h4 => (hb.cell (p := ⟨T, o', none⟩) h2).trans (h.tptr o' h1 h4), (hb.cell (p := ⟨T, 9, none⟩) h2).trans h.twt, fun i hi => (hb.cell (p := ⟨B, i, none⟩) h1).trans (h.row i hi), h.top, h.topB⟩
  · obtain ⟨c, hc⟩ := h.blk i hi; exact ⟨c, (hb.block _ (h3 i hi)).trans hc⟩
  · obtain ⟨t, ht⟩ := h.tss i hi; exact ⟨t, (hb.cell (p := ⟨bk B i, 1, none⟩) (h3 i hi)).trans ht⟩
  · obtain ⟨c, hc⟩ := h.tblk; exact ⟨c, (hb.block _ h2).trans hc⟩

theorem ownsRow_shape {w : World} {base n : Nat} {e : TypeId} {size : Nat} {v : Value} {xs : List Value} (h : w.ownsRow base e size v n xs) : ∃ ao cap, v = .slice ao n cap := by
  rcases h.2 with ⟨rfl, rfl⟩ | ⟨g, cap, cur, rfl, _⟩
  · exact ⟨none, 0, rfl⟩
  · exact ⟨_, _, rfl⟩

/-- The pointers to a list of transactions. -/
def ptrs (B : Nat) (l : List Nat) : List Value := l.map fun i => .pointer (some ⟨bk B i, 0, none⟩)

set_option maxRecDepth 10000 in
set_option maxHeartbeats 1000000 in
theorem inorder_any {B n T base : Nat} {f : Nat → Nat → Option Nat} {wt : Nat → Option Addr} {g : Nat → Option Nat} {wait : Int} (hB : B < base) (hT : T < base) (hbk : ∀ i, i < n → bk B i < base) :
    ∀ (t : BT Unit) (p : Option Nat) (d : Nat) (ao : Option Addr) (q cap : Nat) (xs : List Value) (w : World) (hm : Mem w B n T f wt g wait) (ht : IsT f t p) (hin : ∀ i ∈ io t, i < n) (hp : ∀ j, p = some j → j < n) (hd : d + (io t).length ≤ 512) (hq : q + (io t).length ≤ 1024)
      (hown : w.ownsRow base 66 1 (.slice ao q cap) q xs) (hbs : base ≤ w.heap.size),
      Calls Yba.prog 12 #[.pointer (ad B (rt t)), .pointer (ad B p), .slice ao q cap, .int .i64 d] w fun e w' => ∃ ao' cap', e = .returned (.tuple #[.slice ao' (q + (io t).length) cap', .bool true]) ∧
        w'.ownsRow base 66 1 (.slice ao' (q + (io t).length) cap') (q + (io t).length) (xs ++ ptrs B (io t)) ∧ Below base w w' := by
  intro t
  induction t with
  | nil =>
    intro p d ao q cap xs w hm ht hin hp hd hq hown hbs
    have e0 : rt (.nil : BT Unit) = none := rfl
    rw [e0, ad_none]
    have HO : Hid (w.ownsRow base 66 1 (.slice ao q cap) q xs) := hown
    clear hm ht hown e0
    go_enter Yba.func12, Yba.ntmps12
    go_wp2
    go_ret2
    exact ⟨ao, cap, rfl, by simpa [io, ptrs] using HO.out, Below.refl _ _⟩
  | node i o u l r ihl ihr =>
    intro p d ao q cap xs w hm ht hin hp hd hq hown hbs
    have e0 : rt (.node i o u l r) = some i := rfl
    rw [e0, ad_some]
    obtain ⟨i0, hi, hz0, hz1, hz2⟩ := info_parts Yba.info66
    obtain ⟨t22, t23, t24, tl, tr⟩ := ht
    have hi_n : i < n := hin i (by simp [io])
    have c22 := hm.ptr i 22 hi_n (by unfold IsPtr; omega)
    have c23 := hm.ptr i 23 hi_n (by unfold IsPtr; omega)
    rw [t22] at c22
    rw [t23] at c23
    have hlen : (io (.node i o u l r)).length = (io l).length + 1 + (io r).length := by simp [io]; omega
    rw [hlen] at hd hq
    have hne := neq_ptr w (ad B p) (ad B p) (hm.sound hp) (hm.sound hp) false (by simp)
    have hdI : (d : Int) ≤ 512 := by omega
    have IHL : Hid (Calls Yba.prog 12 #[.pointer (ad B (rt l)), .pointer (some ⟨bk B i, 0, none⟩), .slice ao q cap, .int .i64 ((d : Int) + 1)] w fun e w' => ∃ ao' cap', e = .returned (.tuple #[.slice ao' (q + (io l).length) cap', .bool true]) ∧
        w'.ownsRow base 66 1 (.slice ao' (q + (io l).length) cap') (q + (io l).length) (xs ++ ptrs B (io l)) ∧ Below base w w') :=
      ihl (some i) (d + 1) ao q cap xs w hm tl (fun j hj => hin j (by simp [io, hj])) (fun j e => by injection e with e; omega) (by omega) (by omega) hown hbs
    have IHR : Hid (∀ (ao : Option Addr) (q cap : Nat) (xs : List Value) (w : World), Mem w B n T f wt g wait → q + (io r).length ≤ 1024 → w.ownsRow base 66 1 (.slice ao q cap) q xs → base ≤ w.heap.size →
        Calls Yba.prog 12 #[.pointer (ad B (rt r)), .pointer (some ⟨bk B i, 0, none⟩), .slice ao q cap, .int .i64 ((d : Int) + 1)] w fun e w' => ∃ ao' cap', e = .returned (.tuple #[.slice ao' (q + (io r).length) cap', .bool true]) ∧
        w'.ownsRow base 66 1 (.slice ao' (q + (io r).length) cap') (q + (io r).length) (xs ++ ptrs B (io r)) ∧ Below base w w') :=
      fun ao q cap xs w hm hq hown hbs => ihr (some i) (d + 1) ao q cap xs w hm tr (fun j hj => hin j (by simp [io, hj])) (fun j e => by injection e with e; omega) (by omega) hq hown hbs
    have HM : Hid (Mem w B n T f wt g wait) := hm
    have HF : Hid (f i 24 = rt r) := t24
    have HLEN : Hid ((io (.node i o u l r)).length = (io l).length + 1 + (io r).length) := hlen
    clear ihl ihr hm hown t22 t23 t24 tl tr e0 hlen
    go_enter Yba.func12, Yba.ntmps12
    go_wp2_with fail
    refine IHL.out.mono ?_
    rintro e w1 ⟨ao1, cap1, rfl, hrow1, hb1⟩
    have hs1 : base ≤ w1.heap.size := Nat.le_trans hbs hb1.size
    have HM1 : Hid (Mem w1 B n T f wt g wait) := HM.out.under hb1 hB hT hbk
    clear hne c22 c23
    go_wp2_with (at_builtin; go_must (refine wpList_append_own _ rfl _ _ 62 rfl base 66 i0 (.pointer none) 1 8 Yba.underlying62 hi hz0 hz1 hz2 rfl (by decide) (.slice ao1 (q + (io l).length) cap1) (q + (io l).length) (xs ++ ptrs B (io l)) rfl (hrow1.alloc _) ⟨w1.heap.size, 0, none⟩ 1 1 [.pointer (some ⟨bk B i, 0, none⟩)] rfl rfl (new_cells w1 [_] 66 _ rfl) (one_ptr _) (by unfold maxLen; omega) (by omega) (by simp; omega) ?_); intro v2 w2 hrow2 hgrow2 _; go_must (obtain ⟨ao2, cap2, hv2⟩ := ownsRow_shape hrow2; rw [hv2] at hrow2 ⊢; clear hv2; have hlI : ((q : Int) + ((io l).length : Int) + 1) ≤ 1024 := (by omega); have c24 : w2.cell? ⟨bk B i, 24, none⟩ = some (.pointer (ad B (rt r))) := (HF.out ▸ (HM.out.under ((hb1.alloc hs1 _).grown hgrow2 (Nat.le_trans hs1 (by simp)) (fun k hk => (hrow1.lt k hk).1)) hB hT hbk).ptr i 24 hi_n (by unfold IsPtr; omega))))
    have hb2 : Below base w w2 := (hb1.alloc hs1 _).grown hgrow2 (by simp; omega) (fun k hk => (hrow1.lt k hk).1)
    have hs2 : base ≤ w2.heap.size := Nat.le_trans hbs hb2.size
    have HM2 : Hid (Mem w2 B n T f wt g wait) := HM.out.under hb2 hB hT hbk
    have HR2 : Hid (w2.ownsRow base 66 1 (.slice ao2 (q + (io l).length + 1) cap2) (q + (io l).length + 1) (xs ++ ptrs B (io l) ++ [.pointer (some ⟨bk B i, 0, none⟩)])) := hrow2
    have HB2 : Hid (Below base w w2) := hb2
    clear hrow2 hrow1 hgrow2 hb2 hb1
    refine (IHR.out ao2 (q + (io l).length + 1) cap2 _ w2 HM2.out (by omega) HR2.out hs2).mono ?_
    rintro e w3 ⟨ao3, cap3, rfl, hrow3, hb3⟩
    have HR3 : Hid (w3.ownsRow base 66 1 (.slice ao3 (q + (io l).length + 1 + (io r).length) cap3) (q + (io l).length + 1 + (io r).length) (xs ++ ptrs B (io l) ++ [.pointer (some ⟨bk B i, 0, none⟩)] ++ ptrs B (io r)) ∧ Below base w2 w3) := ⟨hrow3, hb3⟩
    clear hrow3 hb3 c24
    go_wp2
    go_ret2
    have e1 : q + (io (.node i o u l r)).length = q + (io l).length + 1 + (io r).length := by rw [HLEN.out]; omega
    have e2 : xs ++ ptrs B (io (.node i o u l r)) = xs ++ ptrs B (io l) ++ [.pointer (some ⟨bk B i, 0, none⟩)] ++ ptrs B (io r) := by simp [io, ptrs]
    exact ⟨ao3, cap3, by rw [e1]; rfl, by rw [e1, e2]; exact HR3.out.1, HB2.out.trans HR3.out.2⟩
end Go.Proofs.YbulkanmgRR
