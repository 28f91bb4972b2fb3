import Derived.Test.YbulkanmgRRBuildS
import Derived.ProofKit
import Derived.OpenShut
import Derived.ShutString
import Derived.ChangeOld
import Derived.Deep.Strs
import Derived.Deep.Slices
namespace Go.Proofs.YbulkanmgRR
set_option linter.unusedVariables false
set_option linter.unusedSimpArgs false
open Go.ChangeShapes Go.WideShapes Go.ChangeAt Go.RowKit Go.Deep

theorem Yba.laidOut : laidOutB Yba.prog = true := by kernel_rfl
theorem Yba.cells104 : Yba.prog.cellsOf 104 = 3 := by kernel_rfl
theorem Yba.cells102 : Yba.prog.cellsOf 102 = 1 := by kernel_rfl
theorem Yba.cells5 : Yba.prog.cellsOf 5 = 1 := by kernel_rfl

theorem three {cs : List Value} (h : cs.length = 3) : ∃ v0 v1 v2, cs = [v0, v1, v2] := by
  match cs, h with
  | [v0, v1, v2], _ => exact ⟨v0, v1, v2, rfl⟩

/-- A slice of bytes, opened. -/
theorem open_bytes {H : Type} {enc : TypeId × Value → H} {w : World} {base fuel : Nat} {spare : Nat → Bool} {held : Bool} {cs : List Value} {x : DataW H × List MemPlace}
    (h : DataW.trod enc Yba.prog w base spare held fuel 102 cs = some x) :
    ∃ (ca : Option Addr) (cb coff bl bc : Nat), cs = [.slice ca bl bc] ∧ bl ≤ bc ∧ (0 < bl → ca = some ⟨cb, coff, none⟩) ∧ ∀ j, j < bl → ∃ x : Int, w.cell? ⟨cb, coff + j, none⟩ = some (.int .u8 x) ∧ 0 ≤ x ∧ x ≤ 255 := by
  rcases open_slice1 Yba.underlying102 Yba.cells5 h with ⟨rfl, _⟩ | ⟨a, l, c, m, n, V, D, Pl, rfl, _, hl, _, hm, _, hx⟩
  · exact ⟨none, 0, 0, 0, 0, rfl, Nat.le_refl _, fun h => by omega, fun j hj => by omega⟩
  · have hlm : l ≤ m := by rw [hm]; split <;> omega
    by_cases h0 : l = 0
    · subst h0
      exact ⟨some a, 0, 0, 0, c, rfl, hl, fun h => by omega, fun j hj => by omega⟩
    · obtain ⟨b, off, spot⟩ := a
      have hspot : spot = none := by simpa [Addr.add] using World.cell?_spot (hx 0 (by omega)).1
      subst hspot
      refine ⟨some ⟨b, off, none⟩, b, off, l, c, rfl, hl, fun _ => rfl, fun j hj => ?_⟩
      obtain ⟨h1, h2⟩ := hx j (by omega)
      obtain ⟨k, e0, _, wk⟩ := DataW.trod_int Yba.underlying5 h2
      simp at e0
      rw [e0, Addr.add_lit] at h1
      exact ⟨k, h1, (bounds_u8 wk).1, (bounds_u8 wk).2⟩

/-- The parts' seeds, opened. -/
theorem open_rooms {H : Type} {enc : TypeId × Value → H} {w : World} {base fuel : Nat} {spare : Nat → Bool} {held : Bool} {ao : Option Addr} {len cap : Nat} {x : DataW H × List MemPlace}
    (h : DataW.trod enc Yba.prog w base spare held fuel 22 [.slice ao len cap] = some x) :
    ∃ (b off : Nat), (0 < len → ao = some ⟨b, off, none⟩) ∧ (∀ i, i < len → InAt w b off i) ∧ len ≤ cap := by
  rcases open_slice Yba.underlying22 h with ⟨hcs, _⟩ | ⟨a, l, c, m, n, D, Pl, hcs, _, hl, _, hm, _, hx⟩
  · simp at hcs
    obtain ⟨rfl, rfl, rfl⟩ := hcs
    exact ⟨0, 0, by simp, by simp, Nat.le_refl _⟩
  · simp only [List.cons.injEq, Value.slice.injEq, and_true] at hcs
    obtain ⟨rfl, rfl, rfl⟩ := hcs
    have hlm : len ≤ m := by rw [hm]; split <;> omega
    have each : ∀ i, i < len → ∃ (ca : Option Addr) (cb coff bl bc : Nat) (es el : Int), w.cell? (a.add (i * 3)) = some (.slice ca bl bc) ∧ w.cell? (a.add (i * 3 + 1)) = some (.int .u8 es) ∧ w.cell? (a.add (i * 3 + 2)) = some (.int .u8 el) ∧
        (0 ≤ es ∧ es ≤ 255) ∧ (0 ≤ el ∧ el ≤ 255) ∧ bl ≤ bc ∧ (0 < bl → ca = some ⟨cb, coff, none⟩) ∧ ∀ j, j < bl → ∃ x : Int, w.cell? ⟨cb, coff + j, none⟩ = some (.int .u8 x) ∧ 0 ≤ x ∧ x ≤ 255 := by
      intro i hi
      obtain ⟨cs', h1, h2⟩ := hx i (by omega)
      rw [Yba.cells104] at h1
      obtain ⟨_, hlen, hcell⟩ := World.cells?_some h1
      obtain ⟨v0, v1, v2, rfl⟩ := three hlen
      obtain ⟨y0, y1, y2, n', _, _, g0, g1, g2⟩ := trod_struct3 Yba.underlying104 h2
      simp [Yba.cells5, Yba.cells102] at g0 g1 g2
      obtain ⟨ca, cb, coff, bl, bc, e0, q1, q2, q3⟩ := open_bytes g0
      obtain ⟨s, e1, _, wk⟩ := DataW.trod_int Yba.underlying5 g1
      obtain ⟨l, e2, _, wl⟩ := DataW.trod_int Yba.underlying5 g2
      simp at e0 e1 e2
      subst e0 e1 e2
      have c0 := hcell 0 (by omega)
      have c1 := hcell 1 (by omega)
      have c2 := hcell 2 (by omega)
      rw [add_add] at c0 c1 c2
      exact ⟨ca, cb, coff, bl, bc, s, l, by simpa using c0, by simpa using c1, by simpa using c2, bounds_u8 wk, bounds_u8 wl, q1, q2, q3⟩
    by_cases h0 : len = 0
    · subst h0
      exact ⟨0, 0, by simp, by simp, hl⟩
    · obtain ⟨b, off, spot⟩ := a
      have hspot : spot = none := by
        obtain ⟨_, _, _, _, _, _, _, z, _⟩ := each 0 (by omega)
        simpa [Addr.add] using World.cell?_spot z
      subst hspot
      refine ⟨b, off, fun _ => rfl, fun i hi => ?_, hl⟩
      obtain ⟨ca, cb, coff, bl, bc, es, el, z1, z2, z3, z4⟩ := each i hi
      rw [Addr.add_lit] at z1 z2 z3
      exact ⟨ca, cb, coff, bl, bc, es, el, z1, z2, z3, z4⟩
end Go.Proofs.YbulkanmgRR
