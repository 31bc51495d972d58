/- THE STATEMENT FnSplitItemMessagesHalveInOrderSaid. -/
import Derived.Test.Qxb6612300aLaw7b
import Derived.Test.Qxb6612300aOpen4
namespace Go.Proofs.Qxb6612300a
open Go.ChangeShapes Go.WideShapes Go.ChangeAt Go.RowKit
open Go.ChangeMaps (open_string shut_string)
set_option linter.unusedVariables false

theorem law7_all (a : Option Addr) (len cap : Nat) (u : List Int) (hu : u.length = 20) (hl : len ≤ maxLen) (w : World) (hnil : a = none → len = 0 ∧ cap = 0)
    (hpos : 0 < len → ∃ b off, ∃ K : Nat → List Int, ∃ V : Nat → ByteArray, ∃ N : Nat → Int, a = some ⟨b, off, none⟩ ∧ ItemsAt w b off len K V N) :
    Calls Try.prog 7 #[.slice a len cap, .agg (cs8 u).toArray] w fun e w' => e = .returned (.bool true) ∧ Below w.heap.size w w' := by
  by_cases h2 : 2 ≤ len
  · obtain ⟨b, off, K, V, N, rfl, hI⟩ := hpos (by omega)
    exact law7_many b off len cap K V N u hu hl h2 w hI
  by_cases h0 : 0 < len
  · obtain ⟨b, off, K, V, N, rfl, hI⟩ := hpos h0
    have hb := hI.lt h0
    exact law7_few _ len cap u hu hl (by omega) w (fun W hW => zzBytes7_any b off len cap K V N _ hl W h0 (hI.below hW hb)) (fun W hW => itemBytes_any b off len cap K V N hl W (hI.below hW hb))
      (fun W hW => (toItems_any b off len cap K V N (by omega) h0 W (hI.below hW hb)).mono fun e w' ⟨he, hb', _⟩ => ⟨_, _, he, hb'⟩)
  · obtain rfl : len = 0 := by omega
    refine law7_few a 0 cap u hu hl (by omega) w (fun W hW => zzBytes7_zero a cap _ W) (fun W hW => itemBytes_zero a cap W) (fun W hW => ?_)
    cases a with
    | none =>
      obtain ⟨_, rfl⟩ := hnil rfl
      exact (toItems_nil W).mono fun e w' ⟨he, hb'⟩ => ⟨_, _, he, by rw [hb']; exact Below.refl _ _⟩
    | some a => exact (toItems_zero a cap W).mono fun e w' ⟨he, hb', _⟩ => ⟨_, _, he, hb'⟩

set_option maxRecDepth 100000 in
theorem lifted7 (os : Os) (started : os.Started) (H : Type) (enc : TypeId × Value → H) :
    ReturnsInHanded {} Try.checked os 7 .any (Rows.fnSplitItemMessagesHalveInOrderSpec.pre6 enc Try.prog Try.f7 Rows.fnSplitItemMessagesHalveInOrderRow.domain false) (Rows.fnSplitItemMessagesHalveInOrderSpec.post enc Try.prog Try.f7 false true false false) := by
  refine returnsInHanded_of_change (C := Try.checked) own started (by kernel_rfl) Try.func7
    (ChangeSpec.witness6 (enc := enc) (C := Try.checked) false ⟨#[], #[.slice none 0 0, .agg (cs8 (List.replicate 20 0)).toArray], []⟩ 8 (by kernel_rfl) (by kernel_rfl) (by kernel_rfl) (by kernel_rfl)) ?_
  intro W base args ds gs before hval0 hW hcnd _
  have hval : ∀ (j : Nat) t v, Try.f7.params[j]? = some t → args[j]? = some v → Value.okWide Try.prog W .any base t v := hval0
  have hW' := hW
  obtain ⟨p, q, hA0, hV, rfl, hfz, hnd⟩ := hW
  have hA : DataW.TrodAll enc Try.prog W 0 (fun _ => true) true Try.f7.params.toList args.toList ds p := hA0
  rw [Try.params7] at hA hval
  obtain ⟨v0, vs0, d0, ds0, p0, q0, hargs, rfl, rfl, h0, r0⟩ := trodAll_cons hA
  obtain ⟨v1, vs1, d1, ds1, p1, q1, rfl, rfl, rfl, h1, r1⟩ := trodAll_cons r0
  obtain ⟨rfl, rfl, rfl⟩ := trodAll_nil r1
  obtain rfl : args = #[v0, v1] := by cases args; simp_all
  obtain ⟨rfl, rfl⟩ := trodVars_none hV
  have k0 := h0; have k1 := h1
  have lt0 : ∀ x ∈ p0, x.block < W.heap.size := by obtain ⟨m, hm⟩ := k0; exact DataW.trod_lt m _ _ _ hm
  have lt1 : ∀ x ∈ p1, x.block < W.heap.size := by obtain ⟨m, hm⟩ := k1; exact DataW.trod_lt m _ _ _ hm
  obtain ⟨a0, len, cap, rfl⟩ := okWide_slice Try.underlying36 (hval 0 36 v0 rfl rfl)
  obtain ⟨u, rfl, hu, _⟩ := open_bytes Try.underlying25 cells25 (hval 1 25 v1 rfl rfl) h1
  obtain ⟨fuel, hf⟩ := h0
  obtain ⟨hl, hnil, hpos⟩ := open_items Try.underlying36 hf
  clear hA0 hval0
  refine (law7_all a0 len cap u hu hl W hnil hpos).mono fun e W' ⟨he, bel⟩ => ?_
  subst he
  exact ⟨_, rfl, _, _, _, [], _, [], hW', trodAll_mk1 (shut_bool Try.underlying4 _),
    (trodAll_cons_mk (Below.trod laidOut (by kernel_rfl) (of_decide_eq_true (by kernel_rfl)) k0 bel lt0) (trodAll_cons_mk (Below.trod laidOut (by kernel_rfl) (of_decide_eq_true (by kernel_rfl)) k1 bel lt1) trodAll_mk0)), rfl, bel.frame _, fun h => by cases h⟩

theorem over7 : Rows.fnSplitItemMessagesHalveInOrderRow.holds Try.pinned (OpenSpec.ofChange Rows.fnSplitItemMessagesHalveInOrderSpec) :=
  OpenClaim.holds_of_wide 7 Try.f7 rfl rfl rfl rfl rfl rfl rfl ⟨rfl, rfl, rfl, rfl, rfl⟩ rfl rfl rfl rfl rfl (by kernel_rfl) Try.func7 (by kernel_rfl)
    (of_decide_eq_true (by kernel_rfl)) (by unfold Func.isWrapper; first | (rw [if_pos (by decide +kernel)]; kernel_rfl) | (rw [if_neg (by decide +kernel)]; exact ⟨rfl, rfl⟩))
    (fun os started H enc _ => lifted7 os started H enc)

/-- THE STATEMENT -/
theorem splitItems_proved : Rows.FnSplitItemMessagesHalveInOrderSaid := over7
#print axioms splitItems_proved
end Go.Proofs.Qxb6612300a
