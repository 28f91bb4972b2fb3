import Derived.RangeFuncNested
import Derived.RangeFuncBound
import Derived.RangeFuncCalls
import Derived.RangeFuncLeaves
import Derived.Shelf.Abstract
import Derived.Shelf.RegionOpen
import Derived.WalkKit
import Derived.OwnWalkIn
import Derived.TacticsInMore
import Derived.LoopNIn
import Derived.LoopIn
import Derived.Test.YbulkanmgRRStore
namespace Go.Proofs.YbulkanmgRR
set_option linter.unusedVariables false
set_option linter.unusedSimpArgs false
open Go.RowKit Go.Shelf
attribute [local go_sem] Oper.semAt_some

theorem Yba.info50s : (Yba.prog.info? 50).map (fun i => i.size) = some 78 := by kernel_rfl

theorem eqlIn_part (w : World) (a b : Option Addr) (ha : Sound w a) (hb : Sound w b) (d : Nat) (r : Bool) (hr : r = true ↔ a = b) :
    (Op.equalIn (d + 1) 40 (.pointer a) (.pointer b)).run Yba.prog w = .ok r w := by
  obtain ⟨i, hi, hsz⟩ := Option.map_eq_some_iff.1 Yba.info50s
  cases a with
  | none =>
    have e : r = b.isNone := by cases b <;> simp_all
    rw [e]; simp [Op.equalIn, run_underlying Yba.underlying40]
  | some a =>
    cases b with
    | none =>
      have e : r = false := by cases r <;> simp_all
      rw [e]; simp [Op.equalIn, run_underlying Yba.underlying40]
    | some b =>
      by_cases h : a = b
      · subst h
        have e : r = true := hr.2 rfl
        rw [e]; simp [Op.equalIn, run_underlying Yba.underlying40, sizeOf, typeInfo, hi, hsz, run_sameAddr_same]
      · have e : r = false := by
          cases r with
          | false => rfl
          | true => exact absurd (Option.some.inj (hr.1 rfl)) h
        obtain ⟨ca, ta, h1⟩ := ha a rfl
        obtain ⟨cb, tb, h2⟩ := hb b rfl
        rw [e]; simp [Op.equalIn, run_underlying Yba.underlying40, sizeOf, typeInfo, hi, hsz, run_sameAddr_other w h h1 h2]

theorem neq_part (w : World) (a b : Option Addr) (ha : Sound w a) (hb : Sound w b) (r : Bool) (hr : r = false ↔ a = b) :
    (binOp .neq 40 (.pointer a) (.pointer b)).run Yba.prog w = .ok (.bool r) w := by
  have h := eqlIn_part w a b ha hb 9999 (!r) (by simpa using hr)
  simp only [binOp]
  simp [Op.equal, Op.maxDepth, h]

/-- What a round keeps: the blocks of T lie as they lay, and P stays plain cells. -/
def KpP (T : Nat → Prop) (P : Nat) (W W' : World) : Prop :=
  (∀ b, T b → W'.heap[b]? = W.heap[b]?) ∧ (∀ c t, W.heap[P]? = some (.cells c t (0, 0)) → ∃ c' t', W'.heap[P]? = some (.cells c' t' (0, 0)))

theorem KpP.refl (T : Nat → Prop) (P : Nat) (W : World) : KpP T P W W := ⟨fun _ _ => rfl, fun c t h => ⟨c, t, h⟩⟩
theorem KpP.trans {T : Nat → Prop} {P : Nat} {A B C : World} (h : KpP T P A B) (k : KpP T P B C) : KpP T P A C :=
  ⟨fun b hb => (k.1 b hb).trans (h.1 b hb), fun c t hc => by obtain ⟨c', t', h'⟩ := h.2 c t hc; exact k.2 c' t' h'⟩
theorem KpP.book {T : Nat → Prop} {P : Nat} {w : World} (hT : ∀ b, T b → b < w.heap.size) (hP : P < w.heap.size) (W : World) (l : Nat) (o o' : Obj) (hl : w.heap.size ≤ l) (h : W.heap[l]? = some o) (_ : o.isCells = false) (_ : o.isWalk = false) : KpP T P W (W.putObj l o') :=
  ⟨fun b hb => World.putObj_heap_other (by have := hT b hb; omega), fun c t hc => ⟨c, t, (World.putObj_heap_other (by omega)).trans hc⟩⟩

/-- The parts but the home. -/
abbrev Oth (n h : Nat) := { i : Nat // i < n ∧ i ≠ h }
def oth (n h k : Nat) : List (Oth n h) := ((List.range k).filterMap fun i => if hi : i < n ∧ i ≠ h then some ⟨i, hi⟩ else none)
theorem oth_skip (n h k : Nat) (hk : k = h) : oth n h (k + 1) = oth n h k := by simp [oth, List.range_succ, hk]
theorem oth_next (n h k : Nat) (hk : k < n ∧ k ≠ h) : oth n h (k + 1) = oth n h k ++ [⟨k, hk⟩] := by simp [oth, List.range_succ, hk]
theorem oth_le (n h k : Nat) : (oth n h k).length ≤ k := by
  have := List.length_filterMap_le (fun i => if hi : i < n ∧ i ≠ h then some (⟨i, hi⟩ : Oth n h) else none) (List.range k)
  simpa [oth] using this

set_option maxHeartbeats 400000 in
theorem others_any (S h : Addr) (w : World) :
    Calls Yba.prog 22 #[.pointer (some S), .pointer (some h)] w fun e w' => e = .returned (.func (.func 28) #[] #[.pointer (some ⟨w.heap.size, 0, none⟩), .pointer (some ⟨w.heap.size + 1, 0, none⟩)]) ∧
      w' = (w.alloc (.cells #[.pointer (some S)] 23)).alloc (.cells #[.pointer (some h)] 40) := by
  have hmf : ∀ (fn : Fn) (first cap : Array Value) (w : World), (Instr.makeFunc fn first cap).run Yba.prog w = .ok (.func fn first cap) w := fun _ _ _ _ => rfl
  go_enter Yba.func22, Yba.ntmps22
  go_wp2
  go_ret
  exact ⟨rfl, rfl⟩

set_option maxRecDepth 10000 in
set_option maxHeartbeats 1600000 in
/-- The closure of others: every part but the home, in order. -/
theorem others1_stops (n : Nat) (hn : 1 ≤ n) (Bs Bh S P N h : Nat) (T : Nat → Prop) (w : World) (hN : N ≤ 1000) (hh : h < N) (hT : ∀ b, T b → b < w.heap.size) (h1 : T Bs) (h2 : T Bh) (h3 : T S)
    (cs : w.cell? ⟨Bs, 0, none⟩ = some (.pointer (some ⟨S, 0, none⟩))) (ch : w.cell? ⟨Bh, 0, none⟩ = some (.pointer (some ⟨P, h * 78, none⟩))) (cS : w.cell? ⟨S, 0, none⟩ = some (.slice (some ⟨P, 0, none⟩) N N))
    (cP : ∃ c t, w.heap[P]? = some (.cells c t (0, 0))) :
    SeqStopsK Fence.wide n Yba.prog 28 #[.pointer (some ⟨Bs, 0, none⟩), .pointer (some ⟨Bh, 0, none⟩)] (fun x : Oth N h => #[.pointer (some ⟨P, x.1 * 78, none⟩)]) (KpP T P) (fun xs => xs = oth N h N) (fun _ => True) N w := fun l J Jx W hW hJ hJx hY h0 => by
  have hsz := hW.size
  have hPl : P < w.heap.size := by obtain ⟨c, t, hc⟩ := cP; exact (Array.getElem?_eq_some_iff.1 hc).1
  have aB := (hW.cell (p := ⟨Bs, 0, none⟩) (hT _ h1)).trans cs
  have aS := (hW.cell (p := ⟨S, 0, none⟩) (hT _ h3)).trans cS
  refine callsIn_of_wp Yba.func28 rfl trivial ?_ rfl
  simp only [Yba.ntmps28, List.size_toArray, List.length_cons, List.length_nil, Nat.reduceAdd, Nat.reduceSub, Array.replicate_succ, Array.replicate_zero, List.push_toArray, List.append_toArray, List.nil_append, List.cons_append]
  gi_wp2
  have HI : Hid (AbidesFrom W.heap.size J ∧ AbidesFrom W.heap.size Jx ∧ J [] W ∧ Below w.heap.size w W) := ⟨hJ, hJx, h0, hW⟩
  have HC : Hid ((w.cell? ⟨Bs, 0, none⟩ = some (.pointer (some ⟨S, 0, none⟩))) ∧ (w.cell? ⟨Bh, 0, none⟩ = some (.pointer (some ⟨P, h * 78, none⟩))) ∧ (w.cell? ⟨S, 0, none⟩ = some (.slice (some ⟨P, 0, none⟩) N N)) ∧ ∃ c t, w.heap[P]? = some (.cells c t (0, 0))) := ⟨cs, ch, cS, cP⟩
  clear hJ hJx h0 hW cs ch cS cP aB aS
  gi_loopw [11] (fun p wr => ∃ k : Nat, k ≤ N ∧ p = .int .i64 k ∧ J (oth N h k) wr ∧ KpP T P W wr) (fun p _ => N - (intOf p).toNat)
  case atStart => exact ⟨0, Nat.zero_le _, rfl, HI.out.2.2.1, KpP.refl _ _ _⟩
  case round =>
    obtain ⟨k, hk, rfl, hj, hkp⟩ := hrel
    have kept : ∀ b v, T b → w.cell? ⟨b, 0, none⟩ = some v → wr.cell? ⟨b, 0, none⟩ = some v := by
      intro b v hb hv
      exact ((World.cell?_of_block (w := W) (a := ⟨b, 0, none⟩) (hkp.1 b hb)).trans (HI.out.2.2.2.cell (p := ⟨b, 0, none⟩) (hT b hb))).trans hv
    have b1 := kept Bs _ h1 HC.out.1
    have b2 := kept Bh _ h2 HC.out.2.1
    have b3 := kept S _ h3 HC.out.2.2.1
    have sd : ∀ o, Sound wr (some ⟨P, o, none⟩) := by
      intro o x e
      cases e
      obtain ⟨c, t, hc⟩ := HC.out.2.2.2
      exact hkp.2 c t ((HI.out.2.2.2.block P hPl).trans hc)
    clear kept
    by_cases hlt : k < N
    · have hkI : (k : Int) < (N : Int) := by omega
      by_cases hkh : k = h
      · have hne := neq_part wr (some ⟨P, k * 78, none⟩) (some ⟨P, h * 78, none⟩) (sd _) (sd _) false (by simp [hkh])
        have KH : Hid (k = h) := hkh
        clear hkh
        gi_wp2
        refine ⟨fun _ h => (by cases h), ?_⟩
        gi_wp2
        exact ⟨⟨k + 1, by omega, by go_num, by rw [oth_skip N h k KH.out]; exact hj, hkp⟩, by simp [intOf]; omega⟩
      · have hne := neq_part wr (some ⟨P, k * 78, none⟩) (some ⟨P, h * 78, none⟩) (sd _) (sd _) true (by simp [hkh])
        obtain ⟨fn, tmps, assign, body, hy, hR⟩ := hY (oth N h k) ⟨k, hlt, hkh⟩ wr hj (by have := oth_le N h k; omega)
        dsimp only at hy
        have hnot : ∀ (x : Bool) (w : World), (Op.unary .not (.bool x)).run Yba.prog w = .ok (.bool (!x)) w := fun _ _ => rfl
        gi_wp2
        refine hR.mono ?_
        rintro e W3 (⟨rfl, hJ3, hk3⟩ | ⟨rfl, hJx3⟩)
        · gi_wp2
          go_roundw
          case rel => exact ⟨k + 1, by omega, by go_num, by rw [oth_next N h k ⟨hlt, hkh⟩]; exact hJ3, hkp.trans hk3⟩
          case measure => simp [intOf]; omega
        · gi_wp2
          refine bodyPost_ret (results_none rfl _ _ _) rfl ?_
          exact ⟨⟨_, rfl⟩, .inr ⟨_, trivial, hJx3⟩⟩
    · have hkI : ¬ (k : Int) < (N : Int) := by omega
      gi_wp2
      go_end0
      obtain rfl : k = N := by omega
      exact ⟨⟨_, rfl⟩, .inl hj⟩
end Go.Proofs.YbulkanmgRR
