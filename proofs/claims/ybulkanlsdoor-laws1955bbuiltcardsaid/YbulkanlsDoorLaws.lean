import Derived.Test.YbulkanlsDoorBuild
namespace Go.Proofs.YbulkanlsDoor
set_option linter.unusedVariables false
open Go.RowKit

theorem eq_true_of {u v : ByteArray} {l : List UInt8} (h1 : u.data.toList = punctL l) (h2 : v.data.toList = modelL l) : (u.toList == v.toList) = true := by
  rw [Lib.toList_data, Lib.toList_data, h1, h2, punct_model]; exact beq_self_eq_true _

/-! ### LawS1955BTable -/
set_option maxHeartbeats 400000 in
theorem table_any (s : ByteArray) (w : World) (b off cap : Nat) (ht : IsTab w b off cap) (hs : s.size ≤ maxLen) :
    Calls Ybad.prog 3 #[.string s] w fun e w' => e = .returned (.bool true) ∧ w' = w := by
  by_cases hl : s.size ≤ 1024
  · have hl' : (s.size : Int) ≤ 1024 := by omega
    go_enter Ybad.func3, Ybad.ntmps3
    go_wp2_with (first | (go_at_call 5; refine (punct_any s _ b off cap ht hs).mono ?_; rintro e w' ⟨u, rfl, hu, hus, rfl⟩) | (go_at_call 6; refine (model_any s _ hs).mono ?_; rintro e w' ⟨v, rfl, hv, rfl⟩; have heq := eq_true_of hu hv))
    go_ret
    exact ⟨rfl, rfl⟩
  · have hl' : (1024 : Int) < (s.size : Int) := by omega
    go_enter Ybad.func3, Ybad.ntmps3
    go_wp2
    go_ret
    exact ⟨rfl, rfl⟩

/-! ### LawS1955BBuilt -/
theorem IsTab.below {w w' : World} {b off cap : Nat} (h : IsTab w b off cap) (hb : Below w.heap.size w w') : IsTab w' b off cap :=
  ⟨(hb.cell (World.block_lt_of_cell? w _ h.var)).trans h.var, fun i hi => (hb.cell (World.block_lt_of_cell? w _ (h.cell i hi))).trans (h.cell i hi)⟩

set_option maxHeartbeats 400000 in
theorem built_any (ao : Option Addr) (pb po len pc : Nat) (z : Nat → Int) (t : ByteArray) (w : World) (b off cap : Nat) (ht : IsTab w b off cap) (ha : 0 < len → ao = some ⟨pb, po, none⟩) (hc : ∀ i, i < len → w.cell? ⟨pb, po + i, none⟩ = some (.int .u8 (z i)) ∧ 0 ≤ z i ∧ z i ≤ 255) (hts : t.size ≤ maxLen) :
    Calls Ybad.prog 4 #[.slice ao len pc, .string t] w fun e w' => e = .returned (.bool true) ∧ Below w.heap.size w w' := by
  by_cases hl : len ≤ 1024
  · by_cases hl2 : t.size ≤ 1024
    · have hd1 : decide ((1024 : Int) < (len : Int)) = false := decide_eq_false (by omega)
      have hd2 : decide ((1024 : Int) < (t.size : Int)) = false := decide_eq_false (by omega)
      go_enter Ybad.func4, Ybad.ntmps4
      go_wp2_with fail
      refine (build_any ao pb po len pc z t _ ha hc hl hl2).mono ?_
      rintro e w1 ⟨s, rfl, hs, hbel⟩
      have ht1 := ht.below hbel
      go_wp2_with fail
      refine (punct_any s _ b off cap ht1 hs).mono ?_
      rintro e w' ⟨u, rfl, hu, hus, rfl⟩
      have hp := (punct_prefix s.data.toList)
      have hul : (u.size : Int) ≤ 2 := by rw [Lib.size_eq, hu]; have := hp.2; omega
      have hpt : Lib.hasPrefix s.data.toList u.data.toList = true := by rw [hu]; exact hp.1
      clear hp
      have HU : Hid (u.data.toList = punctL s.data.toList) := hu
      clear hu
      go_wp2_with fail
      refine (pre8 s u _ hs hus).mono ?_
      rintro e w' ⟨rfl, rfl⟩
      go_wp2_with (go_at_call 6; refine (model_any s _ hs).mono ?_; rintro e w' ⟨v, rfl, hv, rfl⟩; have heq := eq_true_of HU.out hv)
      go_ret
      exact ⟨rfl, hbel⟩
    · have hd1 : decide ((1024 : Int) < (len : Int)) = false := decide_eq_false (by omega)
      have hd2 : (1024 : Int) < (t.size : Int) := by omega
      go_enter Ybad.func4, Ybad.ntmps4
      go_wp2
      go_ret
      exact ⟨rfl, Below.refl _ _⟩
  · have hd1 : (1024 : Int) < (len : Int) := by omega
    go_enter Ybad.func4, Ybad.ntmps4
    go_wp2
    go_ret
    exact ⟨rfl, Below.refl _ _⟩
end Go.Proofs.YbulkanlsDoor
