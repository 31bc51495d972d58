/- Plain mathematics for the seat: bytes as lists of integers, the order of two identifiers. Nothing of the program stands here. -/
namespace Go.Proofs.Qxb6612300a

/-- 'a is the lower number', for two rows of bytes, the first byte counting most. -/
def lexLt : List Int → List Int → Bool
  | x :: xs, y :: ys => decide (x < y) || (decide (x = y) && lexLt xs ys)
  | [], _ :: _ => true
  | _, [] => false

/-- the borrow as a number -/
def bor (b : Bool) : Int := if b then 1 else 0

theorem bor_bd (b : Bool) : 0 ≤ bor b ∧ bor b ≤ 1 := by cases b <;> simp [bor]

/-- each byte -/
def Bytes (xs : List Int) : Prop := ∀ x ∈ xs, 0 ≤ x ∧ x ≤ 255

theorem Bytes.at {xs : List Int} (h : Bytes xs) (k : Nat) : 0 ≤ xs.getD k 0 ∧ xs.getD k 0 ≤ 255 := by
  by_cases hk : k < xs.length
  · have e : xs.getD k 0 = xs[k] := by simp [List.getD, hk]
    rw [e]; exact h _ (List.getElem_mem hk)
  · have e : xs.getD k 0 = 0 := by simp [List.getD, List.getElem?_eq_none (Nat.le_of_not_lt hk)]
    rw [e]; decide

theorem drop_getD {xs : List Int} {m : Nat} (h : m < xs.length) : xs.drop m = xs.getD m 0 :: xs.drop (m + 1) := by
  rw [List.drop_eq_getElem_cons h]
  simp [List.getD, h]

/-- one round of the subtraction -/
theorem lexLt_round {xs ys : List Int} {m : Nat} (hx : m < xs.length) (hy : m < ys.length) :
    lexLt (xs.drop m) (ys.drop m) = decide (xs.getD m 0 - ys.getD m 0 - bor (lexLt (xs.drop (m + 1)) (ys.drop (m + 1))) < 0) := by
  rw [drop_getD hx, drop_getD hy]
  generalize xs.getD m 0 = x
  generalize ys.getD m 0 = y
  simp only [lexLt]
  cases lexLt (xs.drop (m + 1)) (ys.drop (m + 1)) <;> simp only [bor, Bool.and_false, Bool.or_false, Bool.and_true, if_true, Bool.false_eq_true, if_false] <;> rw [Bool.eq_iff_iff] <;> simp <;> omega

theorem lexLt_irrefl : ∀ xs : List Int, lexLt xs xs = false
  | [] => rfl
  | x :: xs => by simp [lexLt, lexLt_irrefl xs]

theorem lexLt_trans : ∀ {xs ys zs : List Int}, lexLt xs ys = true → lexLt ys zs = true → lexLt xs zs = true
  | [], [], _, h, _ => by simp [lexLt] at h
  | [], _ :: _, [], _, h => by simp [lexLt] at h
  | [], _ :: _, _ :: _, _, _ => rfl
  | _ :: _, [], _, h, _ => by simp [lexLt] at h
  | _ :: _, _ :: _, [], _, h => by simp [lexLt] at h
  | x :: xs, y :: ys, z :: zs, h1, h2 => by
    simp only [lexLt, Bool.or_eq_true, Bool.and_eq_true, decide_eq_true_eq] at *
    rcases h1 with h1 | ⟨h1, h1'⟩ <;> rcases h2 with h2 | ⟨h2, h2'⟩
    · left; omega
    · left; omega
    · left; omega
    · right; exact ⟨by omega, lexLt_trans h1' h2'⟩

/-- of 'lower', 'higher' and 'equal' just one holds -/
theorem lexLt_tri : ∀ (xs ys : List Int), xs.length = ys.length →
    (lexLt xs ys = true ∧ lexLt ys xs = false ∧ (xs == ys) = false) ∨ (lexLt xs ys = false ∧ lexLt ys xs = true ∧ (xs == ys) = false) ∨ (lexLt xs ys = false ∧ lexLt ys xs = false ∧ (xs == ys) = true)
  | [], [], _ => by simp [lexLt]
  | [], _ :: _, h => by simp at h
  | _ :: _, [], h => by simp at h
  | x :: xs, y :: ys, h => by
    have ih := lexLt_tri xs ys (by simpa using h)
    by_cases h1 : x < y
    · left; refine ⟨by simp [lexLt, h1], ?_, ?_⟩
      · simp [lexLt]; exact ⟨by omega, fun e => by omega⟩
      · simp; intro e; omega
    · by_cases h2 : y < x
      · right; left; refine ⟨?_, by simp [lexLt, h2], ?_⟩
        · simp [lexLt]; exact ⟨by omega, fun e => by omega⟩
        · simp; intro e; omega
      · obtain rfl : x = y := by omega
        rcases ih with ⟨a, b, c⟩ | ⟨a, b, c⟩ | ⟨a, b, c⟩
        · left; simp [lexLt, a, b, c]
        · right; left; simp [lexLt, a, b, c]
        · right; right; simp [lexLt, a, b]; simpa using c

end Go.Proofs.Qxb6612300a
