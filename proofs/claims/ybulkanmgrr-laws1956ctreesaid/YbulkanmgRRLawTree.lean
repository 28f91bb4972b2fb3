import Derived.Test.YbulkanmgRRRemTree
import Derived.Test.YbulkanmgRRSetupT
import Derived.Test.YbulkanmgRRInorder
import Derived.Test.YbulkanmgRRPure
namespace Go.Proofs.YbulkanmgRR
set_option linter.unusedVariables false
set_option linter.unusedSimpArgs false
open Go.RowKit Go.Deep

/-- What unwait leaves of the tree and the list: f', g' the links behind. -/
def Left (f0 : Nat → Nat → Option Nat) (g0 : Nat → Option Nat) (k : Nat) (L : List Nat) (f' : Nat → Nat → Option Nat) (g' : Nat → Option Nat) : Prop :=
  ∃ f g t, f' = unF f k ∧ g' = unG f g k ∧ IsT f t none ∧ rt t = g 8 ∧ (∃ P Q, L = P ++ k :: Q ∧ io t = P ++ Q) ∧ (f k 22 = none ∧ f k 23 = none ∧ f k 24 = none) ∧ (∀ i, f i 14 = f0 i 14 ∧ f i 15 = f0 i 15) ∧ (g 6 = g0 6 ∧ g 7 = g0 7)

theorem remove_mem_tree {w : World} {B m T : Nat} {f0 : Nat → Nat → Option Nat} {wt : Nat → Option Addr} {g0 : Nat → Option Nat} {wait : Int} {k : Nat} {L : List Nat} {t0 : BT Unit} (h : Mem w B (m + 1) T f0 wt g0 wait) (hk : k < m + 1) (hc : Chained f0 m) (hT : B ≤ T)
    (ht : IsT f0 t0 none) (hr : g0 8 = rt t0) (hio : io t0 = L) (hnd : L.Nodup) (hL : ∀ i ∈ L, i < m + 1) (hkL : k ∈ L) :
    Calls Yba.prog 19 #[.pointer (some ⟨T, 6, none⟩), .int .i64 2, .pointer (some ⟨bk B k, 0, none⟩)] w fun e w' => e = .returned (.tuple #[]) ∧ ∃ f' g', Left f0 g0 k L f' g' ∧ Mem w' B (m + 1) T f' wt g' wait ∧ Below B w w' := by
  have i14 : IsPtr 14 := by unfold IsPtr; omega
  have i15 : IsPtr 15 := by unfold IsPtr; omega
  have i22 : IsPtr 22 := by unfold IsPtr; omega
  obtain ⟨c, l, r, fc, ft, fw⟩ := focus (f := f0) (root := g0 8) (k := k) t0 [] hr ht (by rw [hio]; exact hkL)
  have hw : wrap c (io (.node k 0 () l r)) = L := by rw [fw, ← hio]; rfl
  have hat : At f0 (g0 8) c (.node k 0 () l r) := ⟨fc, ft, (wrap_perm c _).nodup_iff.1 (by rw [hw]; exact hnd)⟩
  have hroot : Rooted w w B (m + 1) T f0 g0 wt wait k L f0 g0 c l r := ⟨h, hat, hw, fun _ => ⟨rfl, rfl⟩, ⟨rfl, rfl⟩, Below.refl _ _⟩
  have hp0 := prev_ok hk hc
  have hq0 := next_ok hk hc
  refine (remove_tree T (bk B k) ((f0 k 14).map (bk B)) ((f0 k 15).map (bk B)) w (fun w1 => ∃ f g t, Gone w w1 B (m + 1) T f0 g0 wt wait k L f g t) ?_ (ad B (g0 8)) (ad B (f0 k 22)) (h.tptr 8 (by decide) (by decide)) (h.ptr k 22 hk i22) (h.sound ?_) (h.sound (x := some k) (fun i e => by injection e with e; omega)) ?_ (uproot_any hroot hT hL hk) ?_ ?_ (h.top k hk)).mono ?_
  · rintro w1 ⟨f, g, t, hg⟩
    have e14 := (hg.links k).1
    have e15 := (hg.links k).2
    rw [← e14] at hp0
    rw [← e15] at hq0
    rw [← e14, ← e15]
    refine ⟨hg.mem.ptr k 14 hk i14, hg.mem.ptr k 15 hk i15, hg.mem.free hk 14, hg.mem.free hk 15, ?_, ?_, ?_, ?_⟩
    · cases e : f k 14 with
      | none => exact ⟨_, hg.mem.tptr 6 (by decide) (by decide)⟩
      | some p => exact ⟨_, hg.mem.ptr p 15 (hp0 p e).1 i15⟩
    · cases e : f k 14 with
      | none => exact hg.mem.tfree 6
      | some p => exact hg.mem.free (hp0 p e).1 15
    · cases e : f k 15 with
      | none => exact ⟨_, hg.mem.tptr 7 (by decide) (by decide)⟩
      | some p => exact ⟨_, hg.mem.ptr p 14 (hq0 p e).1 i14⟩
    · cases e : f k 15 with
      | none => exact hg.mem.tfree 7
      | some p => exact hg.mem.free (hq0 p e).1 14
  · intro i e
    rw [hr] at e
    exact hL i (by rw [← hio]; exact rt_mem e)
  · by_cases e : g0 8 = some k
    · left; rw [e]; rfl
    · right
      refine ⟨fun e' => e (ad_inj (y := some k) e'), ?_⟩
      have k22 : f0 k 22 = par c := ft.1
      cases c with
      | nil => exact absurd fc e
      | cons q c =>
        obtain ⟨d, p, o⟩ := q
        exact ⟨_, by rw [k22]; rfl⟩
  · intro x hx
    obtain ⟨p, e, rfl⟩ := Option.map_eq_some_iff.1 hx
    exact bk_ne (hp0 p e).2
  · intro x hx
    obtain ⟨p, e, rfl⟩ := Option.map_eq_some_iff.1 hx
    exact bk_ne (hq0 p e).2
  · rintro e w' ⟨rfl, w1, j, ⟨f, g, t, hg⟩, rfl⟩
    have e14 := (hg.links k).1
    have e15 := (hg.links k).2
    refine ⟨rfl, unF f k, unG f g k, ⟨f, g, t, rfl, rfl, hg.tree, hg.root, hg.nodes, hg.clear, hg.links, hg.ends⟩, ?_, ?_⟩
    · rw [← e14, ← e15]
      exact (hg.mem.unlinked hk (by rw [e14]; exact hp0) (by rw [e15]; exact hq0)).drewN j
    · refine hg.bel.trans (below_drewN (below_unlinked T (bk B k) _ _ hT (bk_ge B k) ?_ ?_) j)
      · intro x hx
        obtain ⟨p, e, rfl⟩ := Option.map_eq_some_iff.1 hx
        exact bk_ge B p
      · intro x hx
        obtain ⟨p, e, rfl⟩ := Option.map_eq_some_iff.1 hx
        exact bk_ge B p

set_option maxRecDepth 10000 in
set_option maxHeartbeats 400000 in
/-- 'unwait', out of what 'remove' does. -/
theorem unwait_ex {w : World} {B n T k : Nat} {R : (Nat → Nat → Option Nat) → (Nat → Option Nat) → Prop} {wt : Nat → Option Addr} {wait : Int} (hk : k < n) (hT : B ≤ T)
    (hr : Calls Yba.prog 19 #[.pointer (some ⟨T, 6, none⟩), .int .i64 2, .pointer (some ⟨bk B k, 0, none⟩)] w fun e w' => e = .returned (.tuple #[]) ∧ ∃ f' g', R f' g' ∧ Mem w' B n T f' wt g' wait ∧ Below B w w') :
    Calls Yba.prog 10 #[.pointer (some ⟨T, 0, none⟩), .pointer (some ⟨bk B k, 0, none⟩)] w fun e w' => e = .returned (.tuple #[]) ∧ ∃ f' g', R f' g' ∧ Mem w' B n T f' (upd1 wt k none) g' (wrap64 (wait - 1)) ∧ Below B w w' := by
  have HR : Hid (Calls Yba.prog 19 #[.pointer (some ⟨T, 6, none⟩), .int .i64 2, .pointer (some ⟨bk B k, 0, none⟩)] w fun e w' => e = .returned (.tuple #[]) ∧ ∃ f' g', R f' g' ∧ Mem w' B n T f' wt g' wait ∧ Below B w w') := hr
  clear hr
  go_enter Yba.func10, Yba.ntmps10
  go_wp2_with fail
  refine HR.out.mono ?_
  rintro e w1 ⟨rfl, f', g', hR, hm, hb⟩
  have c9 := hm.twt
  have f9 := hm.tfree 9
  have c4 := hm.wts k hk
  have f4 := hm.free hk 4
  have hne : ¬ T = bk B k := hm.top k hk
  have HM : Hid (Mem w1 B n T f' wt g' wait ∧ R f' g') := ⟨hm, hR⟩
  clear hm hR
  go_wp2
  go_end0
  exact ⟨rfl, f', g', HM.out.2, (HM.out.1.setCount _).setWant hk none, (hb.setCell (p := ⟨T, 9, none⟩) hT _).setCell (p := ⟨bk B k, 4, none⟩) (bk_ge B k) _⟩

/-- The tree's nodes behind: the others than k, in their order. -/
theorem nodes_others {m k : Nat} {P Q : List Nat} (h : List.range' 0 (m + 1 - 0) = P ++ k :: Q) : P ++ Q = (List.range m).map (ek k) := by
  have hlen := congrArg List.length h
  simp at hlen
  have at_ : ∀ j, j < m + 1 → (P ++ k :: Q)[j]? = some j := by
    intro j hj
    rw [← h]; simp [hj]
  have hP : P.length = k := by
    have e := at_ P.length (by omega)
    rw [List.getElem?_append_right (Nat.le_refl _)] at e
    simp at e
    exact e.symm
  apply List.ext_getElem?
  intro j
  by_cases hj : j < m
  · have e1 : ((List.range m).map (ek k))[j]? = some (ek k j) := by simp [hj]
    rw [e1]
    unfold ek
    by_cases hjk : j < k
    · rw [if_pos hjk, List.getElem?_append_left (by omega)]
      have e := at_ j (by omega)
      rwa [List.getElem?_append_left (by omega)] at e
    · rw [if_neg hjk, List.getElem?_append_right (by omega)]
      have e := at_ (j + 1) (by omega)
      rw [List.getElem?_append_right (by omega)] at e
      rw [show j + 1 - P.length = (j - P.length) + 1 by omega] at e
      simpa using e
  · rw [List.getElem?_eq_none (by simp; omega), List.getElem?_eq_none (by simp; omega)]
end Go.Proofs.YbulkanmgRR
