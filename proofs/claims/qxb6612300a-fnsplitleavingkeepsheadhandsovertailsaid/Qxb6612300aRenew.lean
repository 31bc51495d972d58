/- Renew (type 53): its cells; Split (34) at a Renew. -/
import Derived.Test.Qxb6612300aSplit
namespace Go.Proofs.Qxb6612300a
open Go.RowKit
set_option linter.unusedVariables false

theorem size53 : (Try.prog.info? 53).map (·.size) = some 21 := by kernel_rfl
theorem zero53 : (Try.prog.info? 53).map (·.zero) = some (some (.agg (renewC (.slice none 0 0) z20).toArray)) := by kernel_rfl
theorem built53 (parts : List (Nat × Value)) : Try.prog.built 53 parts = Instr.fill (fun i => (#[(0, 1), (1, 20)] : Array (Nat × Nat))[i]?) (renewC (.slice none 0 0) z20).toArray parts := by kernel_rfl
theorem run_bld53 (w : World) (a : Option Addr) (n c : Nat) (u : List Int) (hu : u.length = 20) :
    (bldA 53 #[(0, .slice a n c), (1, .agg (cs8 u).toArray)]).run Try.prog w = .ok (.value (.agg (renewC (.slice a n c) u).toArray)) w := by
  have h : Try.prog.built 53 [(0, .slice a n c), (1, .agg (cs8 u).toArray)] = some (renewC (.slice a n c) u).toArray := by
    rw [built53]
    have e1 := fill_part (place := fun i => (#[(0, 1), (1, 20)] : Array (Nat × Nat))[i]?) (pre := []) (old := [.slice none 0 0]) (post := cs8 z20) (vs := [.slice a n c]) (V := .slice a n c) (i := 0) (rest := [(1, .agg (cs8 u).toArray)])
      rfl rfl rfl rfl rfl
    have e2 := fill_part (place := fun i => (#[(0, 1), (1, 20)] : Array (Nat × Nat))[i]?) (pre := [.slice a n c]) (old := cs8 z20) (post := []) (vs := cs8 u) (V := .agg (cs8 u).toArray) (i := 1) (rest := [])
      rfl rfl rfl (by simp [cs8, z20]) (by simp [cs8, hu])
    simp only [List.nil_append, List.append_nil, List.cons_append] at e1 e2
    exact e1.trans e2
  simp only [bldA, Sem.run_bind, run_build w 53 _ _ h, Result.andThen_ok, Sem.run_pure]

theorem ex_build53 (ρ : Operand → Value) (dst : Option Tmp) (ps : Array (Nat × Operand)) (ty : TypeId) (pos : String) (after : Array Edge) (guard : Option (Nat × Bool)) : execOp ρ { dst, op := .build 53 ps, type := ty, pos, after, guard } = bldA 53 (ps.map fun (i, x) => (i, ρ x)) := rfl
theorem ex_alloc53 (ρ : Operand → Value) (dst : Option Tmp) (ty : TypeId) (pos : String) (after : Array Edge) (guard : Option (Nat × Bool)) : execOp ρ { dst, op := .alloc 53, type := ty, pos, after, guard } = alA 53 := rfl
theorem ex_store53 (ρ : Operand → Value) (dst : Option Tmp) (x y : Operand) (ty : TypeId) (pos : String) (after : Array Edge) (guard : Option (Nat × Bool)) : execOp ρ { dst, op := .store 53 x y, type := ty, pos, after, guard } = stA 53 (ρ x) (ρ y) := rfl
theorem ex_load53 (ρ : Operand → Value) (dst : Option Tmp) (x : Operand) (ty : TypeId) (pos : String) (after : Array Edge) (guard : Option (Nat × Bool)) : execOp ρ { dst, op := .load 53 x, type := ty, pos, after, guard } = ldA 53 (ρ x) := rfl
theorem run_ld53 (w : World) (b o : Nat) : (ldA 53 (.pointer (some ⟨b, o, none⟩))).run Try.prog w = match rd w b o 21 with | some cs => .ok (.value (.agg cs.toArray)) w | none => (ldB 53 (.pointer (some ⟨b, o, none⟩))).run Try.prog w := run_ldA Try.underlying53 rfl size53
theorem run_al53 (w : World) : (alA 53).run Try.prog w = .ok (.value (.pointer (some ⟨w.heap.size, 0, none⟩))) (w.alloc (.cells (renewC (.slice none 0 0) z20).toArray 53)) := by
  have hz : ∃ i, Try.prog.info? 53 = some i ∧ i.zero = some (.agg (renewC (.slice none 0 0) z20).toArray) := by
    have h := zero53
    cases hi : Try.prog.info? 53 with
    | none => simp [hi] at h
    | some i => exact ⟨i, rfl, by simpa [hi] using h⟩
  obtain ⟨i, hi, hz⟩ := hz
  simp [alA, Instr.alloc, zeroValue, typeInfo, hi, hz, newVar, newRow, Value.cells]
theorem one_renewC (a : Option Addr) (n c : Nat) (u : List Int) : ∀ v ∈ renewC (.slice a n c) u, v.oneCell' = true := by
  intro v hv
  simp only [renewC, List.mem_cons] at hv
  rcases hv with rfl | hv
  · rfl
  · exact one_cs8 u v hv
theorem run_st53 (w : World) (S : Value) (u : List Int) (a : Option Addr) (n c : Nat) (v : List Int) (b : Nat) (hb : b = w.heap.size) (hu : u.length = 20) (hv : v.length = 20) :
    (stA 53 (.pointer (some ⟨b, 0, none⟩)) (.agg (renewC (.slice a n c) v).toArray)).run Try.prog (w.alloc (.cells (renewC S u).toArray 53)) = .ok .skip (w.alloc (.cells (renewC (.slice a n c) v).toArray 53)) :=
  run_stA_new (n := 21) hb (by simp [renewC_length S u hu]) (renewC_length _ v hv) (one_renewC a n c v) size53
theorem renew_items (S : Value) (u : List Int) : (renewC S u).toArray[0]? = some S := rfl
theorem renew_items' (S : Value) (u : List Int) : (renewC S u)[0]? = some S := rfl
theorem renew_upto (w : World) (S : Value) (u : List Int) (b : Nat) (hb : b = w.heap.size) (hu : u.length = 20) : rd (w.alloc (.cells (renewC S u).toArray 53)) b 1 20 = some (cs8 u) := by
  rw [rd_alloc_at w _ 53 b 1 20 hb (by simp [renewC_length S u hu])]
  rw [List.toList_toArray, renewC, List.drop_succ_cons, List.drop_zero, List.take_of_length_le (by simp [cs8, hu])]

attribute [local go_sem ↓] ex_load25 ex_load29 ex_build53 ex_alloc53 ex_store53 ex_load53
attribute [local go_sem] run_ld25 run_ld29 run_ld53 run_bld53 run_al53 run_st53 renew_items renew_items' renew_upto z20_length rd_alloc_past

set_option maxRecDepth 100000 in
set_option maxHeartbeats 1000000 in
theorem split53 (g len : Nat) (u : List Int) (hu : u.length = 20) (hl : len ≤ 32768) (h2 : 2 ≤ len) (w : World) :
    Calls Try.prog 34 #[.iface 53 (.agg (renewC (.slice (some ⟨g, 0, none⟩) len len) u).toArray)] w fun e w' => SplitTo w (.iface 53 (.agg (renewC (halfA g len) u).toArray)) (.iface 53 (.agg (renewC (halfB g len) u).toArray)) e w' ∧ Below w.heap.size w w' := by
  have q0 := ta53_42
  have q1 := ta53_46
  have q2 := ta53_53
  have h37 : Hid (∀ W, Calls Try.prog 37 #[.slice (some ⟨g, 0, none⟩) len len] W fun e w' => e = .returned (.tuple #[.slice (some ⟨g, 0, none⟩) (len / 2) len, .slice (some ⟨g, len / 2 * 22, none⟩) (len - len / 2) (len - len / 2)]) ∧ Below W.heap.size W w') := fun W => halves_any g len hl (by omega) W
  go_enter Try.func34, Try.ntmps34
  go_wp2_with (go_at_call 37; refine (h37.out _).mono ?_)
  rintro e w1 ⟨rfl, hb1⟩
  have hB1 : Below w.heap.size w w1 := ((Below.refl _ _).alloc (Nat.le_refl _) _).trans (hb1.mono (by simp))
  have hz1 : w.heap.size < w1.heap.size := by have := hb1.size; simp at this; omega
  have hu1 : rd w1 w.heap.size 1 20 = some (cs8 u) := (rd_below hb1 (by simp) _ _).trans (renew_upto w _ u _ rfl hu)
  clear hb1
  go_wp2
  go_ret
  exact ⟨⟨w1.heap.size, rfl, ⟨by omega, by simp, World.cell?_alloc_at _ _ _ _ rfl, World.cell?_alloc_at _ _ _ _ rfl⟩⟩, hB1.alloc (by omega) _⟩

set_option maxRecDepth 100000 in
set_option maxHeartbeats 1000000 in
theorem split53_few (a : Option Addr) (len cap : Nat) (u : List Int) (hu : u.length = 20) (h2 : len < 2) (w : World) :
    Calls Try.prog 34 #[.iface 53 (.agg (renewC (.slice a len cap) u).toArray)] w fun e w' => e = .returned (.slice none 0 0) ∧ Below w.heap.size w w' := by
  have q0 := ta53_42
  have q1 := ta53_46
  have q2 := ta53_53
  go_enter Try.func34, Try.ntmps34
  go_wp2
  go_ret
  exact ⟨rfl, (Below.refl _ _).alloc (Nat.le_refl _) _⟩
end Go.Proofs.Qxb6612300a
