/- valueOf 16, assign 17. -/
import Derived.Test.Qxb6609294aNew
namespace Go.Proofs.Qxb6609294a
open Go.RowKit
set_option linter.unusedVariables false

/-- a literal's value, of its variable's -/
def lv (l : Nat) (v : Int) : Int := if l % 2 = 1 then -v else v

section
variable {w : World} {p : Nat} {V : Nat → Value} {X : Nat → List Value} {h : Int} {f : Bool}

set_option maxRecDepth 100000 in
theorem valueOf_at (g2 n c2 l q : Nat) (v : Int) (w : World) (hc : w.cell? ⟨p, 2, none⟩ = some (.slice (some ⟨g2, 0, none⟩) n c2)) (hl : l ≤ 1000000) (hq : q = l / 2) (hqn : q < n) (hv : v = 0 ∨ v = -1) (hr : w.cell? ⟨g2, q, none⟩ = some (.int .i8 v)) :
    Calls Try.prog 16 #[.pointer (some ⟨p, 0, none⟩), .int .i32 l] w fun e w' => e = .returned (.int .i8 (lv l v)) ∧ ∃ m, w' = w.drewN m := by
  have hd : (l : Int) / 2 = (q : Int) := by omega
  have ha := and_one l (by omega) (by omega)
  have hvar := fun w => fnVar l w (by omega) (by omega)
  rw [hd] at hvar
  have HV : Hid _ := hvar
  have HQ : Hid _ := hq
  clear hq hvar
  by_cases hp : l % 2 = 1
  · have he : (l : Int) % 2 = 1 := by omega
    have e1 : lv l v = -v := by unfold lv; rw [if_pos hp]
    rw [e1]
    clear hp e1 hd
    go_enter Try.func16, Try.ntmps16
    go_wp2_with (fail)
    go_quiet ((go_at_call 22; exact Calls.quiet_of_same (HV.out _)))
    rcases hv with rfl | rfl
    · go_wp2
      go_ret
      exact ⟨rfl, _, rfl⟩
    · go_wp2
      go_ret
      exact ⟨rfl, _, rfl⟩
  · have he : (l : Int) % 2 = 0 := by omega
    have e1 : lv l v = v := by unfold lv; rw [if_neg hp]
    rw [e1]
    clear hp e1 hd
    go_enter Try.func16, Try.ntmps16
    go_wp2_with (fail)
    go_quiet ((go_at_call 22; exact Calls.quiet_of_same (HV.out _)))
    go_wp2
    go_ret
    exact ⟨rfl, _, rfl⟩
end
end Go.Proofs.Qxb6609294a
