/- The queue: before 20, up 15, push 11, add 9; the small functions True 12, Not 14, Var 22. -/
import Derived.Test.Qxb6609294aOwn
import Derived.Laws.BitsLemmas
namespace Go.Proofs.Qxb6609294a
open Go.RowKit
set_option linter.unusedVariables false

/-- the other literal of the variable -/
def lnot (x : Int) : Int := if x % 2 = 0 then x + 1 else x - 1
theorem lnot_le (x : Int) (h0 : 0 ≤ x) : 0 ≤ lnot x ∧ lnot x ≤ x + 1 ∧ lnot x / 2 = x / 2 := by unfold lnot; split <;> omega
theorem lnot_two (x : Int) : lnot (2 * x) = 2 * x + 1 := by unfold lnot; rw [if_pos (by omega)]

theorem xor_one (x : Int) (h0 : 0 ≤ x) (h1 : x ≤ 1000000) : bits .xor .i32 x 1 = lnot x := by
  obtain ⟨a, rfl⟩ := Int.eq_ofNat_of_zero_le h0
  have ha : a ≤ 1000000 := by omega
  have e32 : (2 : Nat) ^ IntKind.bits .i32 = 4294967296 := by decide
  have hd : (a ^^^ 1) / 2 = a / 2 := by rw [Nat.xor_div_two]; exact Nat.xor_zero _
  have hm : (a ^^^ 1) % 2 = (a + 1) % 2 := by
    have h := Nat.testBit_xor a 1 0
    rw [Nat.testBit_zero, Nat.testBit_zero, Nat.testBit_zero] at h
    have h1 : decide (1 % 2 = 1) = true := rfl
    rw [h1, Bool.xor_true] at h
    rcases Nat.mod_two_eq_zero_or_one a with ha | ha <;> rcases Nat.mod_two_eq_zero_or_one (a ^^^ 1) with hb | hb <;> simp only [ha, hb] at h <;> first | omega | (exact absurd h (by decide))
  have hb : bits .xor .i32 ((a : Nat) : Int) 1 = (((a ^^^ 1 : Nat)) : Int) := by
    have h1' : BitVec.ofInt (IntKind.bits .i32) (1 : Int) = BitVec.ofNat (IntKind.bits .i32) 1 := by rfl
    simp only [bits, BitVec.ofInt_natCast, h1', BitVec.toNat_xor, BitVec.toNat_ofNat, e32, Nat.mod_eq_of_lt (show a < 4294967296 by omega), Nat.mod_eq_of_lt (show 1 < 4294967296 by decide)]
    exact wraps_i32 _ (by omega) (by omega)
  rw [hb]
  unfold lnot
  split <;> omega

theorem and_one (x : Int) (h0 : 0 ≤ x) (h1 : x ≤ 1000000) : bits .and .i32 x 1 = x % 2 := by
  have := bits_mask .i32 31 (by decide) wraps_i32 1 (by decide) x h0 (by omega)
  simpa using this

theorem fnTrue (x : Int) (w : World) (h0 : 0 ≤ x) (h1 : x ≤ 1000000) : Calls Try.prog 12 #[.int .i32 x] w fun e w' => e = .returned (.int .i32 (2 * x)) ∧ w' = w := by
  go_enter Try.func12, Try.ntmps12
  go_wp2
  go_ret
  exact ⟨rfl, rfl⟩

theorem fnNot (x : Int) (w : World) (h0 : 0 ≤ x) (h1 : x ≤ 1000000) : Calls Try.prog 14 #[.int .i32 x] w fun e w' => e = .returned (.int .i32 (lnot x)) ∧ w' = w := by
  have e := xor_one x h0 h1
  go_enter Try.func14, Try.ntmps14
  go_wp2
  go_ret
  exact ⟨rfl, rfl⟩

theorem fnVar (x : Int) (w : World) (h0 : 0 ≤ x) (h1 : x ≤ 1000000) : Calls Try.prog 22 #[.int .i32 x] w fun e w' => e = .returned (.int .i32 (x / 2)) ∧ w' = w := by
  go_enter Try.func22, Try.ntmps22
  go_wp2
  go_ret
  exact ⟨rfl, rfl⟩

section
variable {w : World} {p : Nat}

theorem before_no (g10 n c10 : Nat) (x y : Nat) (w : World) (hc : w.cell? ⟨p, 10, none⟩ = some (.slice (some ⟨g10, 0, none⟩) n c10)) (hx : x < n) (hy : y < n) (hn : n ≤ 1000000)
    (ha : ∀ i, i < n → w.cell? ⟨g10, i, none⟩ = some (.float .f64 0)) (hxy : y < x) :
    Calls Try.prog 20 #[.pointer (some ⟨p, 8, none⟩), .int .i32 x, .int .i32 y] w fun e w' => e = .returned (.bool false) ∧ ∃ m, w' = w.drewN m := by
  have ha1 := ha x hx
  have ha2 := ha y hy
  have hd : decide (x < y) = false := decide_eq_false (by omega)
  have hf : FloatKind.f64.format.order 0 0 = some Ordering.eq := by kernel_rfl
  go_enter Try.func20, Try.ntmps20
  go_wp2
  go_quiet (fail)
  go_wp2
  go_ret
  exact ⟨rfl, _, rfl⟩

set_option maxRecDepth 100000 in
/-- the last of the heap stays where it is -/
theorem up_stays (g8 c8 g10 c10 n m : Nat) (w : World) (hc8 : w.cell? ⟨p, 8, none⟩ = some (.slice (some ⟨g8, 0, none⟩) n c8)) (hc10 : w.cell? ⟨p, 10, none⟩ = some (.slice (some ⟨g10, 0, none⟩) n c10)) (hn : n ≤ 1000000)
    (hh : ∀ i : Nat, i < n → w.cell? ⟨g8, i, none⟩ = some (.int .i32 i)) (ha : ∀ i, i < n → w.cell? ⟨g10, i, none⟩ = some (.float .f64 0)) (hm : m < n) :
    Calls Try.prog 15 #[.pointer (some ⟨p, 8, none⟩), .int .i64 m] w fun e w' => e = .returned (.tuple #[]) ∧ ∃ k, w' = w.drewN k := by
  by_cases h0 : m = 0
  · have h0' : (m : Int) = 0 := by omega
    clear h0
    go_enter Try.func15, Try.ntmps15
    go_wp2
    refine wp_loop_once ?_
    go_wp2
    go_end0
    exact ⟨rfl, 0, rfl⟩
  · obtain ⟨q, hq⟩ : ∃ q : Nat, q = (m - 1) / 2 := ⟨_, rfl⟩
    have hqm : q < m := by omega
    have hqn : q < n := by omega
    have hdq : ((m : Int) - 1).tdiv 2 = (q : Int) := by
      rw [Int.tdiv_eq_ediv_of_nonneg (by omega)]; omega
    have h1 := hh m hm
    have h2 := hh q (by omega)
    have HQ : Hid (q = (m - 1) / 2) := hq
    clear hq
    have hd : decide (0 < m) = true := decide_eq_true (by omega)
    go_enter Try.func15, Try.ntmps15
    go_wp2
    refine wp_loop_once ?_
    go_wp2_with (fail)
    go_quiet ((go_at_call 20; exact Calls.quiet_of (before_no g10 n c10 m q _ hc10 hm hqn hn ha hqm)))
    go_wp2
    (try simp only [Exit.inBlock, Exit.then]); refine bodyPost_ret (results_none rfl _ _ _) rfl ?_
    exact ⟨rfl, _, rfl⟩
end
end Go.Proofs.Qxb6609294a
