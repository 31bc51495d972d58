/- The arguments of the laws, opened: a slice of pairs of rows of bytes. -/
import Derived.Test.Qxb6612300aOpen2
namespace Go.Proofs.Qxb6612300a
open Go.ChangeShapes Go.WideShapes Go.ChangeAt Go.RowKit
set_option linter.unusedVariables false

section
variable {H : Type} {enc : TypeId × Value → H} {w : World} {base : Nat} {spare : Nat → Bool} {held : Bool}

theorem cells26 : Try.prog.cellsOf 26 = 40 := by kernel_rfl

set_option maxRecDepth 100000 in
theorem trod_pair {fuel : Nat} {cs : List Value} {x : DataW H × List MemPlace} (h : DataW.trod enc Try.prog w base spare held fuel 26 cs = some x) :
    ∃ xs ys, cs = cs8 xs ++ cs8 ys ∧ xs.length = 20 ∧ (ys.length = 20 ∧ Bytes ys) := by
  obtain ⟨ds, m, _, _, hl, hn, hi⟩ := DataW.trod_array Try.underlying26 h
  rw [cells26] at hl
  have h0 := hi 0 (by omega)
  have h1 := hi 1 (by omega)
  rw [cells25, List.getElem?_eq_getElem (by omega)] at h0 h1
  obtain ⟨xs, e0, hx, _⟩ := trod_bytes Try.underlying25 cells25 h0
  obtain ⟨ys, e1, hy, yb⟩ := trod_bytes Try.underlying25 cells25 h1
  rw [Nat.zero_mul, List.drop_zero] at e0
  rw [Nat.one_mul, List.take_of_length_le (by simp; omega)] at e1
  exact ⟨xs, ys, by rw [← e0, ← e1, List.take_append_drop], hx, hy, yb⟩

set_option maxRecDepth 100000 in
theorem open_pairs {t fuel : Nat} {a : Option Addr} {len cap : Nat} {x : DataW H × List MemPlace} (ht : Try.prog.underlying t = some (.slice 26))
    (h : DataW.trod enc Try.prog w 0 (fun _ => true) held fuel t [.slice a len cap] = some x) :
    len ≤ maxLen ∧ (0 < len → ∃ b off, ∃ K B : Nat → List Int, a = some ⟨b, off, none⟩ ∧ (∀ i, i < len → (K i).length = 20) ∧ (∀ i, i < len → (B i).length = 20 ∧ Bytes (B i)) ∧ ∀ i, i < len → rd w b (off + i * 40) 40 = some (cs8 (K i) ++ cs8 (B i))) := by
  obtain ⟨hl, _, he⟩ := open_elems ht cells26 (by omega) h
  refine ⟨hl, fun h0 => ?_⟩
  obtain ⟨b, off, ha, hi⟩ := he h0
  obtain ⟨X, hX⟩ := Deep.choose_lt (α := List Int × List Int) (n := len) (p := fun i p => p.1.length = 20 ∧ (p.2.length = 20 ∧ Bytes p.2) ∧ rd w b (off + i * 40) 40 = some (cs8 p.1 ++ cs8 p.2)) (fun i hlt => by
    obtain ⟨cs, y, m, hr, ht⟩ := hi i hlt
    obtain ⟨xs, ys, rfl, hx, hy⟩ := trod_pair ht
    exact ⟨(xs, ys), hx, hy, hr⟩)
  exact ⟨b, off, fun i => (X i).1, fun i => (X i).2, ha, fun i hlt => (hX i hlt).1, fun i hlt => (hX i hlt).2.1, fun i hlt => (hX i hlt).2.2⟩
end
end Go.Proofs.Qxb6612300a
