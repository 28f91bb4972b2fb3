import Derived.Test.YbulkanlsDoorFns
namespace Go.Proofs.YbulkanlsDoor
set_option linter.unusedVariables false
open Go.RowKit

theorem Ybad.info5 : (Ybad.prog.info? 5).map (fun i => (i.zero, i.size, i.bytes)) = some (some (.int .u8 0), 1, 1) := by kernel_rfl

theorem new_cells (w : World) (cs : List Value) (t : TypeId) (g : Nat) (hg : g = w.heap.size) : ∀ (j : Nat) (u : Value), cs[j]? = some u → (w.alloc (.cells cs.toArray t)).cell? ((⟨g, 0, none⟩ : Addr).add j) = some u := by
  intro j u hu
  subst hg
  rw [Addr.add_lit, Nat.zero_add, World.cell?_alloc_new]
  simpa using hu

theorem one_u8 (c : Int) : ∀ u ∈ [Value.int .u8 c], u.oneCell' = true := by
  intro u hu; simp at hu; subst hu; rfl

set_option maxHeartbeats 400000 in
theorem build_any (ao : Option Addr) (b off len cap : Nat) (z : Nat → Int) (t : ByteArray) (w : World) (ha : 0 < len → ao = some ⟨b, off, none⟩) (hc : ∀ i, i < len → w.cell? ⟨b, off + i, none⟩ = some (.int .u8 (z i)) ∧ 0 ≤ z i ∧ z i ≤ 255) (hlen : len ≤ 1024) (ht : t.size ≤ 1024) :
    Calls Ybad.prog 7 #[.slice ao len cap, .string t] w fun e w' => ∃ s, e = .returned (.string s) ∧ s.size ≤ maxLen ∧ Below w.heap.size w w' := by
  obtain ⟨i0, hi, hz0, hz1, hz2⟩ := info_parts Ybad.info5
  have hbB : 0 < len → b < w.heap.size := fun h => World.block_lt_of_cell? w _ (hc 0 h).1
  go_enter Ybad.func7, Ybad.ntmps7
  go_wp2_with (at_make; go_must (refine wpList_make_own _ rfl _ _ 24 rfl w.heap.size 5 i0 _ 1 Ybad.underlying24 hi hz0 hz1 _ _ _ (len + t.size) rfl rfl (by omega) (by rw [hz2]; omega) (by unfold maxLen; omega) (Nat.le_refl _) ?_); intro w1 hown hgrow)
  go_loopw [5, 16] (fun v i wr => ∃ (k : Nat) (xs : List Int), k ≤ len ∧ i = .int .i64 k ∧ v = .slice (some ⟨w.heap.size, 0, none⟩) k (len + t.size) ∧ xs.length = k ∧ (∀ n ∈ xs, 0 ≤ n ∧ n ≤ 255) ∧ wr.ownsRow w.heap.size 5 1 (.slice (some ⟨w.heap.size, 0, none⟩) k (len + t.size)) k (xs.map (Value.int .u8)) ∧ Below w.heap.size w wr) (fun _ i _ => len - (intOf i).toNat)
  case atStart => exact ⟨0, [], Nat.zero_le _, rfl, rfl, rfl, by simp, by simpa using hown, (Below.refl _ _).grown hgrow (Nat.le_refl _) (by simp)⟩
  case round =>
    obtain ⟨k, xs, hk, rfl, rfl, hxl, hxs, hrow, hbel⟩ := hrel
    have hsz := hbel.size
    clear hown hgrow
    by_cases hlt : k < len
    · have h0 : wr.cell? ⟨b, off + k, none⟩ = some (.int .u8 (z k)) := (hbel.cell (hbB (by omega))).trans (hc k hlt).1
      obtain ⟨_, zl, zu⟩ := hc k hlt
      obtain rfl := ha (by omega)
      clear ha
      have HXS : Hid (∀ n ∈ xs, 0 ≤ n ∧ n ≤ 255) := hxs
      clear hxs hc hbB
      go_wp2_with (at_builtin; go_must (refine wpList_append_fits _ rfl _ _ 24 rfl w.heap.size 5 i0 1 Ybad.underlying24 hi hz1 w.heap.size k (len + t.size) _ rfl (hrow.alloc _) ⟨wr.heap.size, 0, none⟩ 1 1 [.int .u8 _] rfl rfl (new_cells wr [_] 5 _ rfl) (one_u8 _) (by omega) ?_); intro w2 hrow2 hgrow2)
      go_roundw
      case rel =>
        refine ⟨k + 1, xs ++ [_], by omega, by go_num, rfl, by simp [hxl], ?_, by rw [List.map_append]; exact hrow2, (hbel.alloc hsz _).grown hgrow2 (by simp; omega) (by simp)⟩
        intro n hn
        rw [List.mem_append] at hn
        rcases hn with hn | hn
        · exact HXS.out n hn
        · simp only [List.mem_singleton] at hn
          subst hn
          exact ⟨by omega, by have := UInt8.toNat_lt ({ data := #[61, 33, 38, 124, 40, 41, 91, 93, 123, 125, 44, 59, 97, 32, 35] : ByteArray }[(z k % 15).toNat]'(by show _ < 15; omega)); omega⟩
      case measure => simp [intOf]; omega
    · have hkl : k = len := by omega
      subst hkl
      have hcv := run_convert_bytes_arg (P := Ybad.prog) wr 24 5 Ybad.underlying24 Ybad.underlying5 w.heap.size 0 k (k + t.size) xs hxl (fun i hi => by
        have e := hrow.cellAt i (by omega)
        rw [Nat.zero_add, e]
        simp [List.getD, List.getElem?_eq_getElem (show i < xs.length by omega)]) 9 Ybad.underlying9
      have hss : (strOfNums xs).size = k := by rw [strOfNums_size, hxl]
      have hss' : ((strOfNums xs).size : Int) ≤ 8388608 := by omega
      have hts' : (t.size : Int) ≤ 8388608 := by omega
      have had := run_string_add (P := Ybad.prog) wr (strOfNums xs) t hss' hts'
      go_wp2
      go_ret
      exact ⟨_, rfl, by rw [ByteArray.size_append', hss]; unfold maxLen; omega, hbel⟩
end Go.Proofs.YbulkanlsDoor
