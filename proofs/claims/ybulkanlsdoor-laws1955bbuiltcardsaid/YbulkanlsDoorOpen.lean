import Derived.Test.YbulkanlsDoorLaws
import Derived.ProofKit
import Derived.LaidMore
import Derived.OpenShut
import Derived.ShutString
import Derived.Stop.Joined
import Derived.Deep.Slices
import Derived.ChangeVars
namespace Go.Proofs.YbulkanlsDoor
set_option linter.unusedVariables false
open Go.ChangeShapes Go.WideShapes Go.ChangeAt Go.RowKit Go.Deep

theorem own : ownKnob Ybad.prog.godebug = none := by kernel_rfl
theorem laidOut : laidOutB Ybad.prog = true := by kernel_rfl
theorem Ybad.cells9 : Ybad.prog.cellsOf 9 = 1 := by kernel_rfl
theorem Ybad.cells5 : Ybad.prog.cellsOf 5 = 1 := by kernel_rfl
theorem gP : Ybad.prog.globalNamed (Rows.lawS1955BTableSpec.vars.headD "") = some 0 := by kernel_rfl
theorem tP : (Ybad.prog.globals[0]?).map (·.type) = some 28 := by kernel_rfl

/-- The table read as the listed datum: its cell and its thirteen strings. -/
theorem tab_of_trod {H : Type} {enc : TypeId × Value → H} {W : World} {base fuel : Nat} {spare : Nat → Bool} {held : Bool} {cs : List Value} {ps : List MemPlace}
    (h : DataW.trod enc Ybad.prog W base spare held fuel 28 cs = some (Rows.laid_example_com_tickroute_tickroute_config_puncts, ps)) :
    ∃ b off cap, cs = [.slice (some ⟨b, off, none⟩) 13 cap] ∧ ∀ i, i < 13 → W.cell? ⟨b, off + i, none⟩ = some (.string ⟨(tabL.getD i []).toArray⟩) := by
  have ed : (Rows.laid_example_com_tickroute_tickroute_config_puncts : DataW H) = .slice (tabL.map fun l => .lit (.string l)) [] := rfl
  rw [ed] at h
  rcases open_slice1 Ybad.underlying28 Ybad.cells9 h with ⟨_, hx⟩ | ⟨a, len, cap, m, n, V, D, Pl, rfl, _, hl, _, hm, hx, hc⟩
  · simp at hx
  simp only [Prod.mk.injEq, DataW.slice.injEq] at hx
  obtain ⟨⟨hD, _⟩, _⟩ := hx
  have hlen : len = 13 := by have := congrArg List.length hD; simp [tabL] at this; omega
  subst hlen
  have hm13 : 13 ≤ m := by rw [hm]; split <;> omega
  have hv : ∀ i, i < 13 → W.cell? (a.add i) = some (.string ⟨(tabL.getD i []).toArray⟩) := by
    intro i hi
    obtain ⟨h1, h2⟩ := hc i (by omega)
    obtain ⟨s, e1, e2, _⟩ := DataW.trod_string Ybad.underlying9 h2
    simp only [List.cons.injEq, and_true] at e1
    simp only [Prod.mk.injEq] at e2
    have e3 : (tabL.map fun l => (.lit (.string l) : DataW H))[i]? = some (D i) := by rw [hD]; simp [hi]
    have ht : i < tabL.length := hi
    rw [List.getElem?_map, List.getElem?_eq_getElem ht, e2.1] at e3
    simp only [Option.map_some, Option.some.injEq, DataW.lit.injEq, Lit.string.injEq] at e3
    rw [h1, e1]
    have e4 : tabL.getD i [] = s.data.toList := by rw [← e3]; simp [List.getD, List.getElem?_eq_getElem ht]
    rw [e4, Lib.mk_data]
  obtain ⟨b, off, spot⟩ := a
  have hspot : spot = none := by simpa [Addr.add] using World.cell?_spot (hv 0 (by omega))
  subst hspot
  refine ⟨b, off, cap, rfl, fun i hi => ?_⟩
  have := hv i hi
  rwa [Addr.add_lit] at this

theorem of_laid {W : World} (h : laidMetH Ybad.prog Rows.lawS1955BTableRow.laid W) : ∃ b off cap, IsTab W b off cap := by
  rw [MakeChecks.laidMetH_plain _ _ _ (by kernel_rfl)] at h
  obtain ⟨ps, ⟨g0, t0, cs0, f0, p0, q0, hg0, ht0, hv0, hd0, _, _⟩, _, _⟩ := h
  obtain rfl := Option.some.inj (gP.symm.trans hg0)
  obtain rfl := Option.some.inj (tP.symm.trans ht0)
  obtain ⟨b, off, cap, hcs, hcell⟩ := tab_of_trod hd0
  refine ⟨b, off, cap, ?_, hcell⟩
  have := World.var?_cell hg0 hv0 0
  rw [Array.eq_one_of_toList hcs] at this
  simpa using this

/-- The named variable reads behind the call as before it. -/
theorem vars_again {H : Type} {enc : TypeId × Value → H} {W W' : World} {gs : List (DataW H)} {q : List MemPlace} (hV : DataW.TrodVars enc Ybad.prog W (fun _ => true) Rows.lawS1955BTableSpec.vars gs q) (bel : Below W.heap.size W W') :
    ∃ d, gs = [d] ∧ DataW.TrodVars enc Ybad.prog W' (fun b => decide (b < W.heap.size)) Rows.lawS1955BTableSpec.vars [d] q := by
  obtain ⟨g, t, cs, fuel, d, p, rfl, hg, ht, hv, hd, rfl⟩ := trodVars_one hV
  obtain rfl := Option.some.inj (gP.symm.trans hg)
  obtain rfl := Option.some.inj (tP.symm.trans ht)
  refine ⟨d, rfl, ?_⟩
  have hlt : ∀ x ∈ p, x.block < W.heap.size := DataW.trod_lt fuel _ _ _ hd
  have hc1 : ∃ v, cs = #[v] ∧ v.cells = #[v] := by
    rcases open_slice1 Ybad.underlying28 Ybad.cells9 hd with ⟨hcs, _⟩ | ⟨a, len, cap, m, n, V, D, Pl, hcs, _⟩
    · exact ⟨_, Array.eq_one_of_toList hcs, rfl⟩
    · exact ⟨_, Array.eq_one_of_toList hcs, rfl⟩
  obtain ⟨v, rfl, hvc⟩ := hc1
  have htrod : DataW.Trod enc Ybad.prog W 0 (fun _ => true) true 28 v d p := ⟨fuel, by rw [hvc]; exact hd⟩
  obtain ⟨fuel', hf'⟩ := Below.trod laidOut (by kernel_rfl) (of_decide_eq_true (by kernel_rfl)) htrod bel hlt
  rw [hvc] at hf'
  have hcell : W.cell? ⟨0, 0, none⟩ = some v := by simpa using World.var?_cell hg hv 0
  have h0 : 0 < W.heap.size := World.block_lt_of_cell? W _ hcell
  exact trodVars_mk1 hg ht (var?_below bel hg h0 hv) hf'

/-- The door's own heap meets the condition. -/
theorem door_met (os : Os) (args : Array Value) : laidMetH Ybad.prog Rows.lawS1955BTableRow.laid ((World.doorLaid Ybad.prog 400 os).forCall (fun _ _ => 0) ⟨#[], args, []⟩).memory :=
  laidMetH_of_parts3 (fuel := 8) (laidMet_of_run' 8 (by kernel_rfl) (by kernel_rfl)) (by kernel_rfl) (by kernel_rfl)
end Go.Proofs.YbulkanlsDoor
