/- THE STATEMENT FnFirstOnlyLowestInSortedRingSaid. -/
import Derived.Test.Qxb6612300aRing
import Derived.Test.Qxb6612300aOpen2
namespace Go.Proofs.Qxb6612300a
open Go.ChangeShapes Go.WideShapes Go.ChangeAt Go.RowKit
open Go.ChangeMaps (open_string shut_string)
set_option linter.unusedVariables false

set_option maxRecDepth 100000 in
theorem lifted6 (os : Os) (started : os.Started) (H : Type) (enc : TypeId × Value → H) :
    ReturnsInHanded {} Try.checked os 6 .any (Rows.fnFirstOnlyLowestInSortedRingSpec.pre6 enc Try.prog Try.f6 Rows.fnFirstOnlyLowestInSortedRingRow.domain false) (Rows.fnFirstOnlyLowestInSortedRingSpec.post enc Try.prog Try.f6 false true false false) := by
  refine returnsInHanded_of_change (C := Try.checked) own started (by kernel_rfl) Try.func6
    (ChangeSpec.witness6 (enc := enc) (C := Try.checked) false ⟨#[], #[.slice none 0 0], []⟩ 8 (by kernel_rfl) (by kernel_rfl) (by kernel_rfl) (by kernel_rfl)) ?_
  intro W base args ds gs before hval0 hW hcnd _
  have hval : ∀ (j : Nat) t v, Try.f6.params[j]? = some t → args[j]? = some v → Value.okWide Try.prog W .any base t v := hval0
  have hW' := hW
  obtain ⟨p, q, hA0, hV, rfl, hfz, hnd⟩ := hW
  have hA : DataW.TrodAll enc Try.prog W 0 (fun _ => true) true Try.f6.params.toList args.toList ds p := hA0
  rw [Try.params6] at hA hval
  obtain ⟨v0, vs0, d0, ds0, p0, q0, hargs, rfl, rfl, h0, r0⟩ := trodAll_cons hA
  obtain ⟨rfl, rfl, rfl⟩ := trodAll_nil r0
  obtain rfl : args = #[v0] := by cases args; simp_all
  obtain ⟨rfl, rfl⟩ := trodVars_none hV
  have k0 := h0
  have lt0 : ∀ x ∈ p0, x.block < W.heap.size := by obtain ⟨m, hm⟩ := k0; exact DataW.trod_lt m _ _ _ hm
  obtain ⟨a0, len, cap, rfl⟩ := okWide_slice Try.underlying34 (hval 0 34 v0 rfl rfl)
  obtain ⟨fuel, hf⟩ := h0
  obtain ⟨hl, hpos⟩ := open_rows Try.underlying34 hf
  clear hA0 hval0
  have walk : Calls Try.prog 6 #[.slice a0 len cap] W fun e w' => e = .returned (.bool true) ∧ Below W.heap.size W w' := by
    by_cases h0 : 0 < len
    · obtain ⟨b, off, X, rfl, hX, hr⟩ := hpos h0
      exact law6_walk b off len cap X hl h0 hX W hr
    · obtain rfl : len = 0 := by omega
      exact law6_empty a0 cap W
  refine walk.mono fun e W' ⟨he, bel⟩ => ?_
  subst he
  exact ⟨_, rfl, _, _, _, [], _, [], hW', trodAll_mk1 (shut_bool Try.underlying4 _),
    (trodAll_cons_mk (Below.trod laidOut (by kernel_rfl) (of_decide_eq_true (by kernel_rfl)) k0 bel lt0) trodAll_mk0), rfl, bel.frame _, fun h => by cases h⟩

theorem over6 : Rows.fnFirstOnlyLowestInSortedRingRow.holds Try.pinned (OpenSpec.ofChange Rows.fnFirstOnlyLowestInSortedRingSpec) :=
  OpenClaim.holds_of_wide 6 Try.f6 rfl rfl rfl rfl rfl rfl rfl ⟨rfl, rfl, rfl, rfl, rfl⟩ rfl rfl rfl rfl rfl (by kernel_rfl) Try.func6 (by kernel_rfl)
    (of_decide_eq_true (by kernel_rfl)) (by unfold Func.isWrapper; first | (rw [if_pos (by decide +kernel)]; kernel_rfl) | (rw [if_neg (by decide +kernel)]; exact ⟨rfl, rfl⟩))
    (fun os started H enc _ => lifted6 os started H enc)

/-- THE STATEMENT -/
theorem firstOnlyLowest_proved : Rows.FnFirstOnlyLowestInSortedRingSaid := over6
#print axioms firstOnlyLowest_proved
end Go.Proofs.Qxb6612300a
