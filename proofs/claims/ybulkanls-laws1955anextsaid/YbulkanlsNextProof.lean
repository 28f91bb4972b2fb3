/-
  'Rows.LawS1955ANextSaid' proved: the walk's cases joined (big input; the token at the position is EOF, is the appended EOF, is none), and the row's step.
-/
import Derived.Test.YbulkanlsLawNext
import Derived.Test.YbulkanlsOpenToks
namespace Go.Proofs.Ybulkanls.lawNext
set_option linter.unusedVariables false
open Go.ChangeShapes Go.WideShapes Go.ChangeAt Go.RowKit

theorem big (ao : Option Addr) (len cap : Nat) (pos : Int) (w : World) (hlen : 1024 < len) :
    Calls Yba.prog 3 #[.slice ao len cap, .int .u64 pos] w fun e w' => e = .returned (.bool true) ∧ Below w.heap.size w w' := by
  have hl : (1024 : Int) < (len : Int) := by omega
  go_enter Yba.func3, Yba.ntmps3
  go_wp2
  go_ret
  exact ⟨rfl, Below.refl _ _⟩

theorem walk (ao : Option Addr) (b off len cap : Nat) (zs : List Tok) (pos : Int) (w : World) (ha : 0 < len → ao = some ⟨b, off, none⟩) (ht : IsToks w b off len zs) (wp : (Lit.int .u64 pos).wf = true) :
    Calls Yba.prog 3 #[.slice ao len cap, .int .u64 pos] w fun e w' => e = .returned (.bool true) ∧ Below w.heap.size w w' := by
  by_cases hlen : len ≤ 1024
  · obtain ⟨hp0, hp1⟩ := bounds_u64 wp
    have h1 : 0 ≤ pos % ((len : Int) + 1) := Int.emod_nonneg _ (by omega)
    have h2 : pos % ((len : Int) + 1) < (len : Int) + 1 := Int.emod_lt_of_pos _ (by omega)
    obtain ⟨i, hi⟩ := Int.eq_ofNat_of_zero_le h1
    have hw : wrap64 (pos % ((len : Int) + 1)) = (i : Int) := by rw [hi] at h1 h2 ⊢; unfold wrap64; omega
    by_cases hil : i < len
    · by_cases hk : (tokAt zs i).1 % 7 = 0
      · exact lawNext_eof ao b off len cap zs pos w ha ht hlen hp0 hp1 i hw hil hk
      · exact lawNext_on ao b off len cap zs pos w ha ht hlen hp0 hp1 i hw hil hk
    · have : i = len := by rw [hi] at h2; omega
      subst this
      exact lawNext_end ao b off i cap zs pos w ha ht hlen hp0 hp1 hw
  · exact big ao len cap pos w (by omega)

set_option maxRecDepth 100000 in
theorem lifted (os : Os) (started : os.Started) (H : Type) (enc : TypeId × Value → H) :
    ReturnsInHanded {} Yba.checked os 3 .any (Rows.lawS1955ANextSpec.pre6 enc Yba.prog Yba.f3 Rows.lawS1955ANextRow.domain false) (Rows.lawS1955ANextSpec.post enc Yba.prog Yba.f3 false true false false) := by
  refine returnsInHanded_of_change (C := Yba.checked) Yba.own started (by kernel_rfl) Yba.func3
    (ChangeSpec.witness6 (enc := enc) (C := Yba.checked) false ⟨#[], #[.slice none 0 0, .int .u64 0], []⟩ 8 (by kernel_rfl) (by kernel_rfl) (by kernel_rfl) (by kernel_rfl)) ?_
  intro W base args ds gs before hval0 hW hcnd _
  have hval : ∀ (j : Nat) t v, Yba.f3.params[j]? = some t → args[j]? = some v → Value.okWide Yba.prog W .any base t v := hval0
  have hW' := hW
  obtain ⟨p, q, hA0, hV, rfl, hfz, hnd⟩ := hW
  have hA : DataW.TrodAll enc Yba.prog W 0 (fun _ => true) true Yba.f3.params.toList args.toList ds p := hA0
  rw [Yba.params3] at hA hval
  obtain ⟨v0, vs0, d0, ds0, p0, q0, hargs, rfl, rfl, h0, r0⟩ := trodAll_cons hA
  obtain ⟨v1, vs1, d1, ds1, p1, q1, rfl, rfl, rfl, h1, r1⟩ := trodAll_cons r0
  obtain ⟨rfl, rfl, rfl⟩ := trodAll_nil r1
  obtain rfl : args = #[v0, v1] := by cases args; simp_all
  obtain ⟨rfl, rfl⟩ := trodVars_none hV
  obtain ⟨a0, len0, cap0, rfl⟩ := okWide_slice Yba.underlying22 (hval 0 22 v0 rfl rfl)
  have k0 := h0
  have lt0 : ∀ x ∈ p0, x.block < W.heap.size := by obtain ⟨m, hm⟩ := k0; exact DataW.trod_lt m _ _ _ hm
  obtain ⟨b, off, zs, ha, ht⟩ : ∃ (b off : Nat) (zs : List Tok), (0 < len0 → a0 = some ⟨b, off, none⟩) ∧ IsToks W b off len0 zs := by
    obtain ⟨fuel, hf⟩ := h0
    exact open_toks (by simpa [Value.cells] using hf)
  obtain ⟨a1, rfl, rfl, rfl, w1⟩ := open_int Yba.underlying23 (hval 1 23 v1 rfl rfl) h1
  clear hA0 hval0
  refine (walk a0 b off len0 cap0 zs a1 W ha ht w1).mono fun e W' ⟨he, bel⟩ => ?_
  subst he
  exact ⟨_, rfl, _, _, _, [], _, [], hW', trodAll_mk1 (shut_bool Yba.underlying4 _), (trodAll_cons_mk (Below.trod Yba.laidOut (by kernel_rfl) (of_decide_eq_true (by kernel_rfl)) k0 bel lt0) (trodAll_cons_mk (shut_int Yba.underlying23 w1) trodAll_mk0)), rfl, bel.frame _, fun h => by cases h⟩

theorem over : Rows.lawS1955ANextRow.holds Yba.pinned (OpenSpec.ofChange Rows.lawS1955ANextSpec) :=
  OpenClaim.holds_of_wide 3 Yba.f3 rfl rfl rfl rfl rfl rfl rfl ⟨rfl, rfl, rfl, rfl, rfl⟩ rfl rfl rfl rfl rfl (by kernel_rfl) Yba.func3 (by kernel_rfl)
    (of_decide_eq_true (by kernel_rfl)) (by unfold Func.isWrapper; first | (rw [if_pos (by decide +kernel)]; kernel_rfl) | (rw [if_neg (by decide +kernel)]; exact ⟨rfl, rfl⟩))
    (fun os started H enc _ => lifted os started H enc)

theorem proved : Rows.LawS1955ANextSaid := over
#print axioms proved
end Go.Proofs.Ybulkanls.lawNext
