import Derived.Test.YbulkanlsNextFn
import Derived.ProofKit
import Derived.OpenShut
import Derived.ShutString
import Derived.ChangeOld
import Derived.Deep.Strs
namespace Go.Proofs.Ybulkanls
set_option linter.unusedVariables false
open Go.ChangeShapes Go.WideShapes Go.ChangeAt Go.RowKit Go.Deep

theorem Yba.own : ownKnob Yba.prog.godebug = none := by kernel_rfl
theorem Yba.laidOut : laidOutB Yba.prog = true := by kernel_rfl
theorem Yba.cells39 : Yba.prog.cellsOf 39 = 3 := by kernel_rfl
theorem Yba.cells5 : Yba.prog.cellsOf 5 = 1 := by kernel_rfl
theorem Yba.cells9 : Yba.prog.cellsOf 9 = 1 := by kernel_rfl
theorem Yba.cells3 : Yba.prog.cellsOf 3 = 1 := by kernel_rfl

theorem open_toks {H : Type} {enc : TypeId × Value → H} {w : World} {base fuel : Nat} {spare : Nat → Bool} {held : Bool} {ao : Option Addr} {len cap : Nat} {x : DataW H × List MemPlace}
    (h : DataW.trod enc Yba.prog w base spare held fuel 22 [.slice ao len cap] = some x) :
    ∃ (b off : Nat) (zs : List Tok), (0 < len → ao = some ⟨b, off, none⟩) ∧ IsToks w b off len zs := by
  rcases open_slice Yba.underlying22 h with ⟨hcs, _⟩ | ⟨a, l, c, m, n, D, Pl, hcs, _, hl, _, hm, _, hx⟩
  · simp at hcs
    obtain ⟨rfl, rfl, rfl⟩ := hcs
    exact ⟨0, 0, [], by simp, rfl, by simp, by simp, by simp, by simp⟩
  · simp only [List.cons.injEq, Value.slice.injEq, and_true] at hcs
    obtain ⟨rfl, rfl, rfl⟩ := hcs
    have hlm : len ≤ m := by rw [hm]; split <;> omega
    have each : ∀ i, i < len → ∃ t : Tok, w.cell? (a.add (i * 3)) = some (.int .u8 t.1) ∧ w.cell? (a.add (i * 3 + 1)) = some (.string t.2.1) ∧ w.cell? (a.add (i * 3 + 2)) = some (.int .i64 t.2.2) ∧ 0 ≤ t.1 ∧ t.1 ≤ 255 := by
      intro i hi
      obtain ⟨cs', h1, h2⟩ := hx i (by omega)
      rw [Yba.cells39] at h1
      obtain ⟨_, hlen, hcell⟩ := World.cells?_some h1
      obtain ⟨y0, y1, y2, n', _, _, g0, g1, g2⟩ := trod_struct3 Yba.underlying39 h2
      match cs', hlen with
      | [v0, v1, v2], _ =>
        simp [Yba.cells5, Yba.cells9, Yba.cells3] at g0 g1 g2
        obtain ⟨k, e0, _, wk⟩ := DataW.trod_int Yba.underlying5 g0
        obtain ⟨s, e1, _, _⟩ := DataW.trod_string Yba.underlying9 g1
        obtain ⟨l, e2, _, _⟩ := DataW.trod_int Yba.underlying3 g2
        simp at e0 e1 e2
        subst e0 e1 e2
        have c0 := hcell 0 (by omega)
        have c1 := hcell 1 (by omega)
        have c2 := hcell 2 (by omega)
        rw [add_add] at c0 c1 c2
        exact ⟨(k, s, l), by simpa using c0, by simpa using c1, by simpa using c2, (bounds_u8 wk).1, (bounds_u8 wk).2⟩
    obtain ⟨f, hf⟩ := choose_lt each
    have hat : ∀ i, i < len → tokAt ((List.range len).map f) i = f i := fun i hi => by simp [tokAt, List.getD, hi]
    by_cases h0 : len = 0
    · subst h0
      exact ⟨0, 0, [], by simp, rfl, by simp, by simp, by simp, by simp⟩
    · obtain ⟨b, off, spot⟩ := a
      have hspot : spot = none := by simpa [Addr.add] using World.cell?_spot (hf 0 (by omega)).1
      subst hspot
      refine ⟨b, off, (List.range len).map f, fun _ => rfl, by simp, fun i hi => ?_, fun i hi => ?_, fun i hi => ?_, fun i hi => ?_⟩
      · rw [hat i hi]; have := (hf i hi).1; rwa [Addr.add_lit] at this
      · rw [hat i hi]; have := (hf i hi).2.1; rwa [Addr.add_lit] at this
      · rw [hat i hi]; have := (hf i hi).2.2.1; rwa [Addr.add_lit] at this
      · rw [hat i hi]; exact (hf i hi).2.2.2
end Go.Proofs.Ybulkanls
