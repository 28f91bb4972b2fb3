import Derived.Test.YbulkanlsRows
import Derived.WalkKit
import Derived.WalkSpells
import Derived.WalkLawsBesides
import Derived.Handy
namespace Go.Proofs.Ybulkanls
set_option linter.unusedVariables false
open Go.RowKit

theorem Yba.info36 : (Yba.prog.info? 36).map (fun i => (i.zero, i.size, i.bytes)) = some (some (.agg #[.int .i64 0, .string ByteArray.empty, .int .i64 0]), 3, 32) := by kernel_rfl

/-- A token as the law's input holds it: kind byte, text, line. -/
abbrev Tok := Int × ByteArray × Int
def tcells (t : Tok) : List Value := [.int .i64 (t.1 % 7), .string t.2.1, .int .i64 t.2.2]
def tokAt (zs : List Tok) (i : Nat) : Tok := zs.getD i (0, ByteArray.empty, 0)

/-- What the walk is told of the slice that came in. -/
structure IsToks (w : World) (b off len : Nat) (zs : List Tok) : Prop where
  size : zs.length = len
  c0 : ∀ i, i < len → w.cell? ⟨b, off + i * 3, none⟩ = some (.int .u8 (tokAt zs i).1)
  c1 : ∀ i, i < len → w.cell? ⟨b, off + i * 3 + 1, none⟩ = some (.string (tokAt zs i).2.1)
  c2 : ∀ i, i < len → w.cell? ⟨b, off + i * 3 + 2, none⟩ = some (.int .i64 (tokAt zs i).2.2)
  k : ∀ i, i < len → 0 ≤ (tokAt zs i).1 ∧ (tokAt zs i).1 ≤ 255

theorem tcells_one (t : Tok) : ∀ u ∈ tcells t, u.oneCell' = true := by
  intro u hu; simp [tcells] at hu; rcases hu with rfl | rfl | rfl <;> rfl

theorem new_cells (w : World) (cs : List Value) (t : TypeId) (g : Nat) (hg : g = w.heap.size) : ∀ (j : Nat) (u : Value), cs[j]? = some u → (w.alloc (.cells cs.toArray t)).cell? ((⟨g, 0, none⟩ : Addr).add j) = some u := by
  intro j u hu
  subst hg
  rw [Addr.add_lit, Nat.zero_add, World.cell?_alloc_new]
  simpa using hu

theorem take_tok (zs : List Tok) (k : Nat) (hk : k < zs.length) : (zs.take (k + 1)).flatMap tcells = (zs.take k).flatMap tcells ++ tcells (tokAt zs k) := by
  rw [List.take_succ_eq_append_getElem hk, List.flatMap_append]
  simp [tokAt, List.getD, List.getElem?_eq_getElem hk]

/-- The cells of the slice that build makes. -/
def allCells (zs : List Tok) : List Value := zs.flatMap tcells ++ tcells (0, ByteArray.empty, 0)

set_option maxHeartbeats 400000 in
theorem build_any (ao : Option Addr) (b off len cap : Nat) (zs : List Tok) (w : World) (ha : 0 < len → ao = some ⟨b, off, none⟩) (ht : IsToks w b off len zs) (hlen : len ≤ 1024) :
    Calls Yba.prog 5 #[.slice ao len cap] w fun e w' => e = .returned (.slice (some ⟨w.heap.size, 0, none⟩) (len + 1) (len + 1)) ∧
      w'.ownsRow w.heap.size 36 3 (.slice (some ⟨w.heap.size, 0, none⟩) (len + 1) (len + 1)) (len + 1) (allCells zs) ∧ Below w.heap.size w w' := by
  obtain ⟨i0, hi, hz0, hz1, hz2⟩ := info_parts Yba.info36
  have hbB : 0 < len → b < w.heap.size := fun h => World.block_lt_of_cell? w _ (ht.c0 0 h)
  go_enter Yba.func5, Yba.ntmps5
  go_wp2_with (at_make; go_must (refine wpList_make_own _ rfl _ _ 24 rfl w.heap.size 36 i0 _ 3 Yba.underlying24 hi hz0 hz1 _ _ _ (len + 1) rfl rfl (by omega) (by rw [hz2]; omega) (by unfold maxLen; omega) (Nat.le_refl _) ?_); intro w1 hown hgrow)
  go_loopw [3, 12] (fun v i wr => ∃ k : Nat, k ≤ len ∧ i = .int .i64 k ∧ v = .slice (some ⟨w.heap.size, 0, none⟩) k (len + 1) ∧ wr.ownsRow w.heap.size 36 3 (.slice (some ⟨w.heap.size, 0, none⟩) k (len + 1)) k ((zs.take k).flatMap tcells) ∧ Below w.heap.size w wr) (fun _ i _ => len - (intOf i).toNat)
  case atStart => exact ⟨0, Nat.zero_le _, rfl, rfl, by simpa using hown, (Below.refl _ _).grown hgrow (Nat.le_refl _) (by simp)⟩
  case round =>
    obtain ⟨k, hk, rfl, rfl, hrow, hbel⟩ := hrel
    have hsz := hbel.size
    clear hown hgrow
    by_cases hlt : k < len
    · have h0 : wr.cell? ⟨b, off + k * 3, none⟩ = some (.int .u8 (tokAt zs k).1) := (hbel.cell (hbB (by omega))).trans (ht.c0 k hlt)
      have h1 : wr.cell? ⟨b, off + k * 3 + 1, none⟩ = some (.string (tokAt zs k).2.1) := (hbel.cell (hbB (by omega))).trans (ht.c1 k hlt)
      have h2 : wr.cell? ⟨b, off + k * 3 + 2, none⟩ = some (.int .i64 (tokAt zs k).2.2) := (hbel.cell (hbB (by omega))).trans (ht.c2 k hlt)
      obtain ⟨kl, ku⟩ := ht.k k hlt
      obtain rfl := ha (by omega)
      have hts := take_tok zs k (by have := ht.size; omega)
      have HTS : Hid ((zs.take (k + 1)).flatMap tcells = (zs.take k).flatMap tcells ++ tcells (tokAt zs k)) := hts
      clear hts
      go_wp2_with (at_builtin; go_must (refine wpList_append_fits _ rfl _ _ 24 rfl w.heap.size 36 i0 3 Yba.underlying24 hi hz1 w.heap.size k (len + 1) _ rfl ((hrow.alloc _).alloc _) ⟨wr.heap.size + 1, 0, none⟩ 1 1 (tcells (tokAt zs k)) rfl rfl ?c2 (tcells_one _) (by omega) ?_); rotate_right; intro w2 hrow2 hgrow2)
      · go_roundw
        case rel => exact ⟨k + 1, by omega, by go_num, rfl, by rw [HTS.out]; exact hrow2, ((hbel.alloc hsz _).alloc (by simp; omega) _).grown hgrow2 (by simp; omega) (by simp)⟩
        case measure => simp [intOf]; omega
      case c2 => exact fun _ _ h => h
    · go_wp2_with (at_builtin; go_must (refine wpList_append_fits _ rfl _ _ 24 rfl w.heap.size 36 i0 3 Yba.underlying24 hi hz1 w.heap.size k (len + 1) _ rfl (hrow.alloc _) ⟨wr.heap.size, 0, none⟩ 1 1 (tcells (0, ByteArray.empty, 0)) rfl rfl ?c4 (tcells_one _) (by omega) ?_); rotate_right; intro w2 hrow2 hgrow2)
      · have hkl : k = len := by omega
        subst hkl
        go_ret
        refine ⟨rfl, ?_, ?_⟩
        · rw [List.take_of_length_le (by have := ht.size; omega)] at hrow2
          exact hrow2
        · exact (hbel.alloc hsz _).grown hgrow2 (by simp; omega) (by simp)
      case c4 => exact new_cells wr (tcells (0, ByteArray.empty, 0)) 36 _ rfl
end Go.Proofs.Ybulkanls
