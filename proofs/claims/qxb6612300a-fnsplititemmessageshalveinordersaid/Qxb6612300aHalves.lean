/- The walk of halvesRight (22). -/
import Derived.Test.Qxb6612300aZZR
namespace Go.Proofs.Qxb6612300a
open Go.RowKit
set_option linter.unusedVariables false

set_option maxRecDepth 100000 in
set_option maxHeartbeats 1000000 in
theorem halvesRight_few (a : Option Addr) (len cap : Nat) (x y : Value) (h2 : len < 2) (w : World) :
    Calls Try.prog 22 #[.slice a len cap, .bool true, .int .i64 0, x, .bool false, y, .bool false] w fun e w' => e = .returned (.bool true) ∧ Below w.heap.size w w' := by
  go_enter Try.func22, Try.ntmps22
  go_wp2
  go_ret
  exact ⟨rfl, Below.refl _ _⟩

set_option maxRecDepth 100000 in
set_option maxHeartbeats 1000000 in
theorem halvesRight_core (g len hf rs : Nat) (K : Nat → List Int) (V : Nat → ByteArray) (N : Nat → Int) (hl : len ≤ 32768) (h2 : 2 ≤ len) (hsum : hf + rs = len) (hhalf : rs = hf ∨ rs = hf + 1) (w : World) (h : ItemsAt w g 0 len K V N) :
    Calls Try.prog 22 #[.slice (some ⟨g, 0, none⟩) len len, .bool false, .int .i64 2, .slice (some ⟨g, 0, none⟩) hf len, .bool true, .slice (some ⟨g, hf * 22, none⟩) rs rs, .bool true] w
      fun e w' => e = .returned (.bool true) ∧ Below w.heap.size w w' := by
  have e4 : (hf : Int) ≤ 32768 := by omega
  have e5 : (rs : Int) ≤ 32768 := by omega
  have e6 : (len : Int) ≤ 32768 := by omega
  have e7 : ((hf : Int) + rs != len) = false := by simp; omega
  have HI1 : Hid (∀ W, Below w.heap.size w W → Calls Try.prog 31 #[.slice (some ⟨g, 0, none⟩) hf len, .slice (some ⟨g, 0, none⟩) len len, .int .i64 0] W fun e w' => e = .returned (.bool true) ∧ Below W.heap.size W w') := fun W hW => by
    have := itemsAt_any g hf len len len 0 K V N (by unfold maxLen; omega) (by omega) W (h.below hW (h.lt (by omega)))
    simpa using this
  have HI2 : Hid (∀ W, Below w.heap.size w W → Calls Try.prog 31 #[.slice (some ⟨g, hf * 22, none⟩) rs rs, .slice (some ⟨g, 0, none⟩) len len, .int .i64 hf] W fun e w' => e = .returned (.bool true) ∧ Below W.heap.size W w') := fun W hW =>
    itemsAt_any g rs rs len len hf K V N (by unfold maxLen; omega) (by omega) W (h.below hW (h.lt (by omega)))
  have f1 : (((rs : Int) != hf) = false) ∨ (((rs : Int) != hf) = true ∧ ((rs : Int) != hf + 1) = false) := by
    rcases hhalf with e | e
    · left; simp; omega
    · right; constructor
      · simp; omega
      · simp; omega
  clear h hsum hhalf hl
  rcases f1 with f1 | ⟨f1, f2⟩
  all_goals
    go_enter Try.func22, Try.ntmps22
    go_wp2_with (fail)
    refine (HI1.out _ (Below.refl _ _)).mono ?_
    rintro e w1 ⟨rfl, hb1⟩
    go_wp2_with (fail)
    refine (HI2.out _ hb1).mono ?_
    rintro e w2 ⟨rfl, hb2⟩
    go_wp2
    go_ret
    exact ⟨rfl, hb1.trans (hb2.mono hb1.size)⟩

theorem halvesRight_any (g len : Nat) (K : Nat → List Int) (V : Nat → ByteArray) (N : Nat → Int) (hl : len ≤ 32768) (h2 : 2 ≤ len) (w : World) (h : ItemsAt w g 0 len K V N) :
    Calls Try.prog 22 #[.slice (some ⟨g, 0, none⟩) len len, .bool false, .int .i64 2, halfA g len, .bool true, halfB g len, .bool true] w fun e w' => e = .returned (.bool true) ∧ Below w.heap.size w w' :=
  halvesRight_core g len (len / 2) (len - len / 2) K V N hl h2 (by omega) (by omega) w h
end Go.Proofs.Qxb6612300a
