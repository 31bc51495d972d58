/- The walks of Split's halves (37), Split (34). -/
import Derived.Test.Qxb6612300aItems2
namespace Go.Proofs.Qxb6612300a
open Go.RowKit
set_option linter.unusedVariables false

set_option maxRecDepth 100000 in
set_option maxHeartbeats 1000000 in
theorem halves_any (g len : Nat) (hl : len ≤ 32768) (h0 : 0 < len) (w : World) :
    Calls Try.prog 37 #[.slice (some ⟨g, 0, none⟩) len len] w fun e w' => e = .returned (.tuple #[.slice (some ⟨g, 0, none⟩) (len / 2) len, .slice (some ⟨g, len / 2 * 22, none⟩) (len - len / 2) (len - len / 2)]) ∧ Below w.heap.size w w' := by
  have hne := later_ne w
  go_enter Try.func37, Try.ntmps37
  go_wp2
  refine wp_region_later (by kernel_rfl) (by kernel_rfl) ?_
  repeat (go_big_quiet_step (fail))
  refine wpQuiet_nil ?_
  rintro _ ⟨z, rfl⟩
  go_wp2
  go_ret2
  exact ⟨rfl, z.bel⟩

/-! ### type assertions -/
theorem ta42_42 (v : Value) (w : World) : (Instr.typeAssert (.iface 42 v) 110 42 true).run Try.prog w = .ok (.tuple #[v, .bool true]) w := by kernel_rfl
theorem ta46_42 (v : Value) (w : World) : (Instr.typeAssert (.iface 46 v) 110 42 true).run Try.prog w = .ok (.tuple #[.agg #[.slice none 0 0], .bool false]) w := by kernel_rfl
theorem ta46_46 (v : Value) (w : World) : (Instr.typeAssert (.iface 46 v) 110 46 true).run Try.prog w = .ok (.tuple #[v, .bool true]) w := by kernel_rfl
theorem ta49_42 (v : Value) (w : World) : (Instr.typeAssert (.iface 49 v) 110 42 true).run Try.prog w = .ok (.tuple #[.agg #[.slice none 0 0], .bool false]) w := by kernel_rfl
theorem ta49_46 (v : Value) (w : World) : (Instr.typeAssert (.iface 49 v) 110 46 true).run Try.prog w = .ok (.tuple #[.agg #[.slice none 0 0], .bool false]) w := by kernel_rfl
/-- the cells of a Renew -/
def renewC (S : Value) (u : List Int) : List Value := S :: cs8 u
theorem renewC_length (S : Value) (u : List Int) (hu : u.length = 20) : (renewC S u).length = 21 := by simp [renewC, cs8, hu]
theorem ta49_53 (v : Value) (w : World) : (Instr.typeAssert (.iface 49 v) 110 53 true).run Try.prog w = .ok (.tuple #[.agg (renewC (.slice none 0 0) z20).toArray, .bool false]) w := by kernel_rfl
theorem ta49_49 (v : Value) (w : World) : (Instr.typeAssert (.iface 49 v) 110 49 true).run Try.prog w = .ok (.tuple #[v, .bool true]) w := by kernel_rfl
theorem ta53_42 (v : Value) (w : World) : (Instr.typeAssert (.iface 53 v) 110 42 true).run Try.prog w = .ok (.tuple #[.agg #[.slice none 0 0], .bool false]) w := by kernel_rfl
theorem ta53_46 (v : Value) (w : World) : (Instr.typeAssert (.iface 53 v) 110 46 true).run Try.prog w = .ok (.tuple #[.agg #[.slice none 0 0], .bool false]) w := by kernel_rfl
theorem ta53_53 (v : Value) (w : World) : (Instr.typeAssert (.iface 53 v) 110 53 true).run Try.prog w = .ok (.tuple #[v, .bool true]) w := by kernel_rfl

/-- the two halves of a row of items -/
def halfA (g len : Nat) : Value := .slice (some ⟨g, 0, none⟩) (len / 2) len
def halfB (g len : Nat) : Value := .slice (some ⟨g, len / 2 * 22, none⟩) (len - len / 2) (len - len / 2)

/-- the answer of Split: two messages -/
structure TwoAt (w w' : World) (p : Nat) (x y : Value) : Prop where
  low : w.heap.size ≤ p
  high : p < w'.heap.size
  one : w'.cell? ⟨p, 0, none⟩ = some x
  two : w'.cell? ⟨p, 1, none⟩ = some y

/-- what Split answered -/
def SplitTo (w : World) (x y : Value) (e : Ending) (w' : World) : Prop := ∃ p, e = .returned (.slice (some ⟨p, 0, none⟩) 2 2) ∧ TwoAt w w' p x y

set_option maxRecDepth 100000 in
set_option maxHeartbeats 1000000 in
theorem split42 (g len : Nat) (hl : len ≤ 32768) (h2 : 2 ≤ len) (w : World) :
    Calls Try.prog 34 #[.iface 42 (.agg #[.slice (some ⟨g, 0, none⟩) len len])] w fun e w' => SplitTo w (.iface 42 (.agg #[halfA g len])) (.iface 42 (.agg #[halfB g len])) e w' ∧ Below w.heap.size w w' := by
  have q0 := ta42_42
  have h37 : Hid (∀ W, Calls Try.prog 37 #[.slice (some ⟨g, 0, none⟩) len len] W fun e w' => e = .returned (.tuple #[.slice (some ⟨g, 0, none⟩) (len / 2) len, .slice (some ⟨g, len / 2 * 22, none⟩) (len - len / 2) (len - len / 2)]) ∧ Below W.heap.size W w') := fun W => halves_any g len hl (by omega) W
  go_enter Try.func34, Try.ntmps34
  go_wp2_with (go_at_call 37; refine (h37.out _).mono ?_)
  rintro e w1 ⟨rfl, hb1⟩
  have hB1 : Below w.heap.size w w1 := ((Below.refl _ _).alloc (Nat.le_refl _) _).trans (hb1.mono (by simp))
  have hz1 : w.heap.size < w1.heap.size := by have := hb1.size; simp at this; omega
  clear hb1
  go_wp2
  go_ret
  exact ⟨⟨w1.heap.size, rfl, ⟨by omega, by simp, World.cell?_alloc_at _ _ _ _ rfl, World.cell?_alloc_at _ _ _ _ rfl⟩⟩, hB1.alloc (by omega) _⟩

set_option maxRecDepth 100000 in
set_option maxHeartbeats 1000000 in
theorem split42_few (a : Option Addr) (len cap : Nat) (h2 : len < 2) (w : World) :
    Calls Try.prog 34 #[.iface 42 (.agg #[.slice a len cap])] w fun e w' => e = .returned (.slice none 0 0) ∧ Below w.heap.size w w' := by
  have q0 := ta42_42
  go_enter Try.func34, Try.ntmps34
  go_wp2
  go_ret
  exact ⟨rfl, (Below.refl _ _).alloc (Nat.le_refl _) _⟩

set_option maxRecDepth 100000 in
set_option maxHeartbeats 1000000 in
theorem split46 (g len : Nat) (hl : len ≤ 32768) (h2 : 2 ≤ len) (w : World) :
    Calls Try.prog 34 #[.iface 46 (.agg #[.slice (some ⟨g, 0, none⟩) len len])] w fun e w' => SplitTo w (.iface 46 (.agg #[halfA g len])) (.iface 46 (.agg #[halfB g len])) e w' ∧ Below w.heap.size w w' := by
  have q0 := ta46_42
  have q1 := ta46_46
  have h37 : Hid (∀ W, Calls Try.prog 37 #[.slice (some ⟨g, 0, none⟩) len len] W fun e w' => e = .returned (.tuple #[.slice (some ⟨g, 0, none⟩) (len / 2) len, .slice (some ⟨g, len / 2 * 22, none⟩) (len - len / 2) (len - len / 2)]) ∧ Below W.heap.size W w') := fun W => halves_any g len hl (by omega) W
  go_enter Try.func34, Try.ntmps34
  go_wp2_with (go_at_call 37; refine (h37.out _).mono ?_)
  rintro e w1 ⟨rfl, hb1⟩
  have hB1 : Below w.heap.size w w1 := ((Below.refl _ _).alloc (Nat.le_refl _) _).trans (hb1.mono (by simp))
  have hz1 : w.heap.size < w1.heap.size := by have := hb1.size; simp at this; omega
  clear hb1
  go_wp2
  go_ret
  exact ⟨⟨w1.heap.size, rfl, ⟨by omega, by simp, World.cell?_alloc_at _ _ _ _ rfl, World.cell?_alloc_at _ _ _ _ rfl⟩⟩, hB1.alloc (by omega) _⟩

set_option maxRecDepth 100000 in
set_option maxHeartbeats 1000000 in
theorem split46_few (a : Option Addr) (len cap : Nat) (h2 : len < 2) (w : World) :
    Calls Try.prog 34 #[.iface 46 (.agg #[.slice a len cap])] w fun e w' => e = .returned (.slice none 0 0) ∧ Below w.heap.size w w' := by
  have q0 := ta46_42
  have q1 := ta46_46
  go_enter Try.func34, Try.ntmps34
  go_wp2
  go_ret
  exact ⟨rfl, (Below.refl _ _).alloc (Nat.le_refl _) _⟩

set_option maxRecDepth 100000 in
set_option maxHeartbeats 1000000 in
theorem split49 (g len : Nat) (hl : len ≤ 32768) (h2 : 2 ≤ len) (w : World) :
    Calls Try.prog 34 #[.iface 49 (.agg #[.slice (some ⟨g, 0, none⟩) len len])] w fun e w' => SplitTo w (.iface 49 (.agg #[halfA g len])) (.iface 49 (.agg #[halfB g len])) e w' ∧ Below w.heap.size w w' := by
  have q0 := ta49_42
  have q1 := ta49_46
  have q2 := ta49_53
  have q3 := ta49_49
  have h37 : Hid (∀ W, Calls Try.prog 37 #[.slice (some ⟨g, 0, none⟩) len len] W fun e w' => e = .returned (.tuple #[.slice (some ⟨g, 0, none⟩) (len / 2) len, .slice (some ⟨g, len / 2 * 22, none⟩) (len - len / 2) (len - len / 2)]) ∧ Below W.heap.size W w') := fun W => halves_any g len hl (by omega) W
  go_enter Try.func34, Try.ntmps34
  go_wp2_with (go_at_call 37; refine (h37.out _).mono ?_)
  rintro e w1 ⟨rfl, hb1⟩
  have hB1 : Below w.heap.size w w1 := ((Below.refl _ _).alloc (Nat.le_refl _) _).trans (hb1.mono (by simp))
  have hz1 : w.heap.size < w1.heap.size := by have := hb1.size; simp at this; omega
  clear hb1
  go_wp2
  go_ret
  exact ⟨⟨w1.heap.size, rfl, ⟨by omega, by simp, World.cell?_alloc_at _ _ _ _ rfl, World.cell?_alloc_at _ _ _ _ rfl⟩⟩, hB1.alloc (by omega) _⟩

set_option maxRecDepth 100000 in
set_option maxHeartbeats 1000000 in
theorem split49_few (a : Option Addr) (len cap : Nat) (h2 : len < 2) (w : World) :
    Calls Try.prog 34 #[.iface 49 (.agg #[.slice a len cap])] w fun e w' => e = .returned (.slice none 0 0) ∧ Below w.heap.size w w' := by
  have q0 := ta49_42
  have q1 := ta49_46
  have q2 := ta49_53
  have q3 := ta49_49
  go_enter Try.func34, Try.ntmps34
  go_wp2
  go_ret
  exact ⟨rfl, (Below.refl _ _).alloc (Nat.le_refl _) _⟩

end Go.Proofs.Qxb6612300a
