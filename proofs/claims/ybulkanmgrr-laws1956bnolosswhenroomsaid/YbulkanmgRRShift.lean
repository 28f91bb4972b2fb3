import Derived.Test.YbulkanmgRRPush
import Derived.Laws.CopyOwn
namespace Go.Proofs.YbulkanmgRR
set_option linter.unusedVariables false
set_option linter.unusedSimpArgs false
open Go.RowKit

theorem Yba.info51s : (Yba.prog.info? 51).map (fun i => i.size) = some 1 := by kernel_rfl

theorem Fr.setRow {S : Nat → Prop} {a b : World} (h : Fr S a b) (g : Nat) (cs : Array Value) (hg : S g) : Fr S a (b.setRow g cs) :=
  ⟨h.os, h.tape, h.output, by simpa [World.setRow] using h.size, fun k hk hs => (setRow_other b g k cs (by rintro rfl; exact hs hg)).trans (h.block k hk hs)⟩

/-- 'copy(s, s[1:])' as a step of a region: some row of the same length lies there behind it. -/
theorem step_copy_down {ops : Array Oper} {o : Oper} {a : Act} {w : World} {K : Act → World → Prop} {Q : Exit → Act → World → Prop} {E : Prop} (hgd : o.guard = none) (d s : Operand)
    (ho : o.op = .call { callee := .builtin .copy, args := #[d, s], argTypes := #[45, 45] }) (g n cap : Nat) (sp : Option Addr) (sCap base : Nat) (xs : List Value)
    (hd : a.eval d = .slice (some ⟨g, 0, none⟩) n cap) (hs : a.eval s = .slice sp (n - 1) sCap) (hsp : 1 < n → sp = some ⟨g, 1, none⟩)
    (hown : w.ownsRow base 51 1 (.slice (some ⟨g, 0, none⟩) n cap) n xs) (hone : ∀ x ∈ xs, x.oneCell' = true)
    (h : ∀ w' xs', w'.ownsRow base 51 1 (.slice (some ⟨g, 0, none⟩) n cap) n xs' → Fr (fun k => k = g) w w' → K (a.put o.dst (goInt ((n - 1 : Nat) : Int))) w') :
    if Region.wanted o (yielded ops a.tmps) = true then Oper.wp Yba.prog o a w K Q else E := by
  have hw : Region.wanted o (yielded ops a.tmps) = true := by simp [Region.wanted, hgd]
  rw [if_pos hw]
  have hl := hown.1
  rcases hown.2 with ⟨h0, _⟩ | ⟨g1, cap1, cur, h1, h2, h3, h4, h5, h6, h7⟩
  · cases h0
  · injection h1 with h1 _ h1c
    injection h1 with h1
    injection h1 with h1 _ _
    subst h1 h1c
    by_cases hn : 1 < n
    · have e := hsp hn
      subst e
      have hsl : (xs.drop 1).length = Nat.min (n - 1) n := by
        rw [List.length_drop, hl]
        rw [show Nat.min (n - 1) n = n - 1 from Nat.min_eq_left (by omega)]; omega
      have hrun := run_copy_row (P := Yba.prog) w 45 45 o.type 51 g 0 n cap ⟨g, 1, none⟩ (n - 1) sCap cur 51 (xs.drop 1) Yba.underlying45 Yba.info51s h3 hsl
        (fun j v hv => by
          have := hown.cells rfl (1 + j) v (by rw [List.getElem?_drop] at hv; exact hv)
          rw [Addr.add_lit] at this ⊢
          rw [← this]; congr 2; omega)
        (by rw [List.length_drop, hl, h6]; omega) (fun v hv => hone v (List.mem_of_mem_drop hv))
      unfold Oper.wp
      simp [execOp, ho, resolve, invoke, builtin, hd, hs, hrun, Result.andThen]
      have hlen : (List.drop 1 xs).length = n - 1 := by rw [List.length_drop, hl]; omega
      have hg2 := setRow_heap w g cur (cur.toList.take 0 ++ xs.drop 1 ++ cur.toList.drop (0 + (xs.drop 1).length)).toArray 51 _ h3
      have hsz2 : (cur.toList.take 0 ++ xs.drop 1 ++ cur.toList.drop (0 + (xs.drop 1).length)).toArray.size = cap * 1 := by
        simp [hl, h6]; omega
      have key := h _ ((cur.toList.take 0 ++ xs.drop 1 ++ cur.toList.drop (0 + (xs.drop 1).length)).take (n * 1))
        ⟨by rw [List.length_take]; have e9 : (cur.toList.take 0 ++ xs.drop 1 ++ cur.toList.drop (0 + (xs.drop 1).length)).length = cap * 1 := by simpa using hsz2
            rw [e9]; omega, .inr ⟨g, cap, _, rfl, h2, hg2, h4, h5, hsz2, rfl⟩⟩ ((Fr.refl (fun k => k = g) w).setRow g _ rfl)
      have exl : xs.length = n := by omega
      rw [exl]
      show K (a.put o.dst (goInt ((n - 1 : Nat) : Int))) _
      simpa [exl] using key
    · have hrun := run_copy_none (P := Yba.prog) w 45 45 o.type 51 (some ⟨g, 0, none⟩) sp n cap (n - 1) sCap Yba.underlying45 Yba.info51s (by rw [show Nat.min (n - 1) n = n - 1 from Nat.min_eq_left (by omega)]; omega)
      unfold Oper.wp
      simp [execOp, ho, resolve, invoke, builtin, hd, hs, hrun, Result.andThen]
      have key := h w xs hown (Fr.refl _ w)
      have e : n - 1 = 0 := by omega
      rw [e] at key
      exact key
end Go.Proofs.YbulkanmgRR
