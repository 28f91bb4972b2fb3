import Derived.Test.YbulkanmgRRFocus
import Derived.Deep.LoopGhost
import Derived.Deep.RegionWith
namespace Go.Proofs.YbulkanmgRR
set_option linter.unusedVariables false
set_option linter.unusedSimpArgs false
open Go.RowKit Go.Deep

theorem At.sideD {f : Nat → Nat → Option Nat} {root : Option Nat} {c : Ctx} {k ok n : Nat} {uk : Unit} {l r : BT Unit} (h : At f root c (.node k ok uk l r)) (hr : ∀ i, i ∈ wrap c (io (.node k ok uk l r)) → i < n) (ch : Option Nat) :
    ∀ p, f k 22 = some p → p < n ∧ ∀ j, drop1 f k ch p 23 = some j → j < n := by
  intro p hp
  obtain ⟨h1, h2⟩ := h.parent rfl p hp
  refine ⟨hr p (mem_wrap.2 (.inr h1)), fun j hj => ?_⟩
  rw [drop1_eq, if_neg (by omega)] at hj
  exact hr j (mem_wrap.2 (h2 j hj))

/-- The node's three pointers are cleared. -/
theorem Mem.clear3 {w : World} {B n T : Nat} {f : Nat → Nat → Option Nat} {wt : Nat → Option Addr} {g : Nat → Option Nat} {wait : Int} (h : Mem w B n T f wt g wait) {k : Nat} (hk : k < n) :
    Mem (((w.setCell ⟨bk B k, 22, none⟩ (.pointer none)).setCell ⟨bk B k, 23, none⟩ (.pointer none)).setCell ⟨bk B k, 24, none⟩ (.pointer none)) B n T (upd (upd (upd f k 22 none) k 23 none) k 24 none) wt g wait :=
  ((h.setPtr hk (by unfold IsPtr; omega) none).setPtr hk (by unfold IsPtr; omega) none).setPtr hk (by unfold IsPtr; omega) none
theorem below_clear3 {B k : Nat} {w0 w : World} (h : Below B w0 w) : Below B w0 (((w.setCell ⟨bk B k, 22, none⟩ (.pointer none)).setCell ⟨bk B k, 23, none⟩ (.pointer none)).setCell ⟨bk B k, 24, none⟩ (.pointer none)) :=
  ((h.setCell (p := ⟨bk B k, 22, none⟩) (bk_ge B k) _).setCell (p := ⟨bk B k, 23, none⟩) (bk_ge B k) _).setCell (p := ⟨bk B k, 24, none⟩) (bk_ge B k) _

set_option maxRecDepth 10000 in
set_option maxHeartbeats 1000000 in
theorem uproot_any {w : World} {B n T : Nat} {f0 : Nat → Nat → Option Nat} {g0 : Nat → Option Nat} {wt : Nat → Option Addr} {wait : Int} {k : Nat} {L : List Nat} {c : Ctx} {l r : BT Unit} (h : Rooted w w B n T f0 g0 wt wait k L f0 g0 c l r) (hT : B ≤ T) (hL : ∀ i ∈ L, i < n) (hk : k < n) :
    Calls Yba.prog 25 #[.pointer (some ⟨T, 6, none⟩), .int .i64 2, .pointer (some ⟨bk B k, 0, none⟩)] w fun e w' => e = .returned (.tuple #[]) ∧ ∃ f g t, Gone w w' B n T f0 g0 wt wait k L f g t := by
  have i22 : IsPtr 22 := by unfold IsPtr; omega
  have i23 : IsPtr 23 := by unfold IsPtr; omega
  have i24 : IsPtr 24 := by unfold IsPtr; omega
  have HR0 : Hid (Rooted w w B n T f0 g0 wt wait k L f0 g0 c l r) := h
  have HL : Hid (∀ i ∈ L, i < n) := hL
  clear h hL
  go_enter Yba.func25, Yba.ntmps25
  go_wp2_with fail
  go_loopg [] (io (.node k 0 () l r)).length (fun m wr => ∃ f g c l r, Rooted w wr B n T f0 g0 wt wait k L f g c l r ∧ m = (io (.node k 0 () l r)).length)
  case atStart => exact ⟨_, _, _, _, _, HR0.out, rfl⟩
  case round =>
    clear HR0
    obtain ⟨f, g, c, l, r, hr, hgk⟩ := hrel
    have HR : Hid (Rooted w wr B n T f0 g0 wt wait k L f g c l r ∧ gk = (io (.node k 0 () l r)).length) := ⟨hr, hgk⟩
    have c23 := hr.mem.ptr k 23 hk i23
    have c24 := hr.mem.ptr k 24 hk i24
    have e23 : f k 23 = rt l := hr.here.tree.2.1
    have e24 : f k 24 = rt r := hr.here.tree.2.2.1
    rw [e23] at c23
    rw [e24] at c24
    have c22 := hr.mem.ptr k 22 hk i22
    clear hr hgk e23 e24
    cases l with
    | nil =>
      cases r with
      | nil =>
        have HIN : Hid (∀ i, i ∈ wrap c (io (.node k 0 () .nil .nil)) → i < n) := fun i hi => HL.out i (by rw [← HR.out.1.nodes]; exact hi)
        have rl : rt (.nil : BT Unit) = none := rfl
        rw [rl, ad_none] at c23 c24
        clear rl
        go_wp2_with fail
        refine (replace_mem HR.out.1.mem (f k 22) k none hT hk (HR.out.1.here.sideD HIN.out none)).mono ?_
        rintro e w2 ⟨rfl, M2, B2⟩
        have d22 := M2.ptr k 22 hk i22
        have d23 := M2.ptr k 23 hk i23
        have d24 := M2.ptr k 24 hk i24
        have z22 := M2.free hk 22
        have z23 := M2.free hk 23
        have z24 := M2.free hk 24
        have HM2 : Hid (Mem w2 B n T (repF f (f k 22) k none) wt (repG g (f k 22) none) wait) := M2
        clear M2 c22 c23 c24
        go_wp2
        go_end0
        exact ⟨rfl, _, _, _, HR.out.1.gone (t := .nil) (.inl ⟨rfl, rfl⟩) (HM2.out.clear3 hk) (below_clear3 B2)⟩
      | node b ob ub lb rb =>
        have HIN : Hid (∀ i, i ∈ wrap c (io (.node k 0 () .nil (.node b ob ub lb rb))) → i < n) := fun i hi => HL.out i (by rw [← HR.out.1.nodes]; exact hi)
        have hbn : b < n := HIN.out b (mem_wrap.2 (.inl (by simp [io])))
        have hbk : ¬ bk B b = bk B k := by
          refine bk_ne (fun e => ?_)
          have := (List.nodup_append.1 HR.out.1.here.nodup).1
          simp only [io, List.nil_append] at this
          exact (List.nodup_cons.1 this).1 (by simp [e])
        have hbk' : ¬ bk B k = bk B b := fun e => hbk e.symm
        have rl : rt (.nil : BT Unit) = none := rfl
        have rb1 : rt (.node b ob ub lb rb) = some b := rfl
        rw [rl, ad_none] at c23
        rw [rb1, ad_some] at c24
        have cb := HR.out.1.mem.ptr b 22 hbn i22
        have fb := HR.out.1.mem.free hbn 22
        clear rl rb1
        go_wp2_with fail
        go_region
        go_wp2_with fail
        have M1 : Mem (wr.setCell ⟨bk B b, 22, none⟩ (.pointer (ad B (f k 22)))).drew B n T (drop1 f k (some b)) wt g wait := (HR.out.1.mem.setPtr hbn i22 (f k 22)).drewN 1
        refine (replace_mem M1 (f k 22) k (some b) hT hk (HR.out.1.here.sideD HIN.out (some b))).mono ?_
        rintro e w2 ⟨rfl, M2, B2⟩
        have B3 : Below B wr w2 := ((Below.refl _ _).setCell (p := ⟨bk B b, 22, none⟩) (bk_ge B b) _).drew.trans B2
        have d22 := M2.ptr k 22 hk i22
        have d23 := M2.ptr k 23 hk i23
        have d24 := M2.ptr k 24 hk i24
        have z22 := M2.free hk 22
        have z23 := M2.free hk 23
        have z24 := M2.free hk 24
        have HM2 : Hid (Mem w2 B n T (repF (drop1 f k (some b)) (f k 22) k (some b)) wt (repG g (f k 22) (some b)) wait) := M2
        clear M1 M2 B2 c22 c23 c24 cb fb
        go_wp2
        go_end0
        exact ⟨rfl, _, _, _, HR.out.1.gone (t := .node b ob ub lb rb) (.inl ⟨rfl, rfl⟩) (HM2.out.clear3 hk) (below_clear3 B3)⟩
    | node a oa ua la ra =>
      cases r with
      | nil =>
        have HIN : Hid (∀ i, i ∈ wrap c (io (.node k 0 () (.node a oa ua la ra) .nil)) → i < n) := fun i hi => HL.out i (by rw [← HR.out.1.nodes]; exact hi)
        have han : a < n := HIN.out a (mem_wrap.2 (.inl (by simp [io])))
        have hbk : ¬ bk B a = bk B k := by
          refine bk_ne (fun e => ?_)
          have := (List.nodup_append.1 HR.out.1.here.nodup).1
          simp only [io] at this
          exact (List.nodup_append.1 this).2.2 a (by simp) k (by simp) e
        have hbk' : ¬ bk B k = bk B a := fun e => hbk e.symm
        have rl : rt (.nil : BT Unit) = none := rfl
        have ra1 : rt (.node a oa ua la ra) = some a := rfl
        rw [ra1, ad_some] at c23
        rw [rl, ad_none] at c24
        have cb := HR.out.1.mem.ptr a 22 han i22
        have fb := HR.out.1.mem.free han 22
        clear rl ra1
        go_wp2_with fail
        go_region
        go_wp2_with fail
        have M1 : Mem (wr.setCell ⟨bk B a, 22, none⟩ (.pointer (ad B (f k 22)))).drew B n T (drop1 f k (some a)) wt g wait := (HR.out.1.mem.setPtr han i22 (f k 22)).drewN 1
        refine (replace_mem M1 (f k 22) k (some a) hT hk (HR.out.1.here.sideD HIN.out (some a))).mono ?_
        rintro e w2 ⟨rfl, M2, B2⟩
        have B3 : Below B wr w2 := ((Below.refl _ _).setCell (p := ⟨bk B a, 22, none⟩) (bk_ge B a) _).drew.trans B2
        have d22 := M2.ptr k 22 hk i22
        have d23 := M2.ptr k 23 hk i23
        have d24 := M2.ptr k 24 hk i24
        have z22 := M2.free hk 22
        have z23 := M2.free hk 23
        have z24 := M2.free hk 24
        have HM2 : Hid (Mem w2 B n T (repF (drop1 f k (some a)) (f k 22) k (some a)) wt (repG g (f k 22) (some a)) wait) := M2
        clear M1 M2 B2 c22 c23 c24 cb fb
        go_wp2
        go_end0
        exact ⟨rfl, _, _, _, HR.out.1.gone (t := .node a oa ua la ra) (.inr ⟨rfl, rfl⟩) (HM2.out.clear3 hk) (below_clear3 B3)⟩
      | node b ob ub lb rb =>
        have hin : ∀ i, i ∈ wrap c (io (.node k 0 () (.node a oa ua la ra) (.node b ob ub lb rb))) → i < n := fun i hi => HL.out i (by rw [← HR.out.1.nodes]; exact hi)
        have han : a < n := hin a (mem_wrap.2 (.inl (by simp [io])))
        have hbn : b < n := hin b (mem_wrap.2 (.inl (by simp [io])))
        have ra1 : rt (.node a oa ua la ra) = some a := rfl
        have rb1 : rt (.node b ob ub lb rb) = some b := rfl
        rw [ra1, ad_some] at c23
        rw [rb1, ad_some] at c24
        obtain ⟨ta, hta⟩ := HR.out.1.mem.tss a han
        obtain ⟨tb, htb⟩ := HR.out.1.mem.tss b hbn
        have HIN : Hid (∀ i, i ∈ wrap c (io (.node k 0 () (.node a oa ua la ra) (.node b ob ub lb rb))) → i < n) := hin
        clear hin ra1 rb1 c22
        by_cases hgt : prio tb < prio ta
        · go_wp2_with fail
          go_quiet (first | (go_at_call_of 29 (Value.pointer (some (⟨bk B a, 0, none⟩ : Addr))); refine Calls.quiet_of_same (priority_any (bk B a) ta _ ?_); simpa using hta) | (go_at_call_of 29 (Value.pointer (some (⟨bk B b, 0, none⟩ : Addr))); refine Calls.quiet_of_same (priority_any (bk B b) tb _ ?_); simpa using htb))
          go_wp2_with fail
          have HS := HR.out.1.here.sideL HIN.out
          refine (rotate_left (HR.out.1.mem.drewN nq) a k hT han hk HS.2.2.1 HS.2.2.2.1 HS.2.2.2.2.1 HS.2.2.2.2.2.1 HS.2.2.2.2.2.2).mono ?_
          rintro e w2 ⟨rfl, M2, B2⟩
          have HR2 : Hid (Rooted w w2 B n T f0 g0 wt wait k L (rotL f a k) (repG g (f k 22) (some a)) ((false, a, la) :: c) ra (.node b ob ub lb rb)) := HR.out.1.left M2 ((below_drewN (Below.refl _ _) nq).trans B2)
          clear M2 B2 HS c23 c24 hta htb
          go_wp2
          go_roundg (io (.node k 0 () ra (.node b ob ub lb rb))).length
          case measure => rw [HR.out.2]; first | (simp [io]; done) | (simp [io]; omega)
          case rel => exact ⟨_, _, _, _, _, HR2.out, rfl⟩
        · go_wp2_with fail
          go_quiet (first | (go_at_call_of 29 (Value.pointer (some (⟨bk B a, 0, none⟩ : Addr))); refine Calls.quiet_of_same (priority_any (bk B a) ta _ ?_); simpa using hta) | (go_at_call_of 29 (Value.pointer (some (⟨bk B b, 0, none⟩ : Addr))); refine Calls.quiet_of_same (priority_any (bk B b) tb _ ?_); simpa using htb))
          go_wp2_with fail
          have HS := HR.out.1.here.sideR HIN.out
          refine (rotate_right (HR.out.1.mem.drewN nq) b k hT hbn hk HS.2.2.1 HS.2.2.2.1 HS.2.2.2.2.1 HS.2.2.2.2.2.1 HS.2.2.2.2.2.2.1 HS.2.2.2.2.2.2.2).mono ?_
          rintro e w2 ⟨rfl, M2, B2⟩
          have HR2 : Hid (Rooted w w2 B n T f0 g0 wt wait k L (rotR f b k) (repG g (f k 22) (some b)) ((true, b, rb) :: c) (.node a oa ua la ra) lb) := HR.out.1.right M2 ((below_drewN (Below.refl _ _) nq).trans B2)
          clear M2 B2 HS c23 c24 hta htb
          go_wp2
          go_roundg (io (.node k 0 () (.node a oa ua la ra) lb)).length
          case measure => rw [HR.out.2]; first | (simp [io]; done) | (simp [io]; omega)
          case rel => exact ⟨_, _, _, _, _, HR2.out, rfl⟩
end Go.Proofs.YbulkanmgRR
