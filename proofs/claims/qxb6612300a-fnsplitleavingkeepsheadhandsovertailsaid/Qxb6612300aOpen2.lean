/- The arguments of the laws, opened: slices of rows. -/
import Derived.Test.Qxb6612300aOpen
namespace Go.Proofs.Qxb6612300a
open Go.ChangeShapes Go.WideShapes Go.ChangeAt Go.RowKit
set_option linter.unusedVariables false

section
variable {H : Type} {enc : TypeId × Value → H} {w : World} {base : Nat} {spare : Nat → Bool} {held : Bool}

theorem rd_of_cells {a : Addr} {n : Nat} {cs : List Value} (h : w.cells? base a n = some cs) (hs : a.spot = none) : rd w a.block a.off n = some cs := by
  unfold World.cells? at h
  split at h
  · refine rd_of (by simpa using mapM_some_length h) fun j v hv => ?_
    have hj : j < n := by have := (List.getElem?_eq_some_iff.1 hv).1; have := mapM_some_length h; simp at this; omega
    have := mapM_some_get h j j (by simp [hj])
    obtain ⟨b, o, sp⟩ := a
    simp only at hs
    subst hs
    rw [Addr.add_mid] at this
    rw [this, hv]
  · cases h

/-- a slice of rows of n cells: its elements, one by one -/
theorem open_elems {t e n fuel : Nat} {a : Option Addr} {len cap : Nat} {x : DataW H × List MemPlace} (ht : Try.prog.underlying t = some (.slice e)) (hn : Try.prog.cellsOf e = n) (hn0 : 0 < n)
    (h : DataW.trod enc Try.prog w 0 (fun _ => true) held fuel t [.slice a len cap] = some x) :
    len ≤ maxLen ∧ (a = none → len = 0 ∧ cap = 0) ∧ (0 < len → ∃ b off, a = some ⟨b, off, none⟩ ∧ ∀ i, i < len → ∃ cs y m, rd w b (off + i * n) n = some cs ∧ DataW.trod enc Try.prog w 0 (fun _ => true) held m e cs = some y) := by
  rcases Deep.open_slice ht h with ⟨hc, _⟩ | ⟨a', len', cap', m, k, D, Pl, hc, _, hl, hm, hmm, _, hi⟩
  · simp at hc
    obtain ⟨rfl, rfl, rfl⟩ := hc
    exact ⟨by unfold maxLen; omega, fun _ => ⟨rfl, rfl⟩, fun h => absurd h (by omega)⟩
  · simp at hc
    obtain ⟨rfl, rfl, rfl⟩ := hc
    refine ⟨by omega, (fun h => by cases h), fun h0 => ?_⟩
    simp only [if_true] at hmm
    rw [hn] at hi
    obtain ⟨b, off, sp⟩ := a'
    have hsp : sp = none := by
      obtain ⟨cs, hcs, _⟩ := hi 0 (by omega)
      rw [Nat.zero_mul, Addr.add_zero'] at hcs
      unfold World.cells? at hcs
      rw [if_pos (Nat.zero_le _)] at hcs
      have hg := mapM_some_get hcs 0 0 (by simp [hn0])
      rw [Addr.add_zero'] at hg
      have hl := mapM_some_length hcs
      rw [List.getElem?_eq_getElem (by simp at hl; omega)] at hg
      cases sp with
      | none => rfl
      | some k =>
        unfold World.cell? at hg
        split at hg
        · simp at hg
        · cases hg
    subst hsp
    refine ⟨b, off, rfl, fun i hlt => ?_⟩
    obtain ⟨cs, hcs, htr⟩ := hi i (by omega)
    rw [Addr.add_mid] at hcs
    exact ⟨cs, _, k, rd_of_cells hcs rfl, htr⟩

/-- a slice of rows of bytes -/
theorem open_rows {t fuel : Nat} {a : Option Addr} {len cap : Nat} {x : DataW H × List MemPlace} (ht : Try.prog.underlying t = some (.slice 25))
    (h : DataW.trod enc Try.prog w 0 (fun _ => true) held fuel t [.slice a len cap] = some x) :
    len ≤ maxLen ∧ (0 < len → ∃ b off, ∃ X : Nat → List Int, a = some ⟨b, off, none⟩ ∧ (∀ i, i < len → (X i).length = 20 ∧ Bytes (X i)) ∧ ∀ i, i < len → rd w b (off + i * 20) 20 = some (cs8 (X i))) := by
  obtain ⟨hl, _, he⟩ := open_elems ht cells25 (by omega) h
  refine ⟨hl, fun h0 => ?_⟩
  obtain ⟨b, off, ha, hi⟩ := he h0
  obtain ⟨X, hX⟩ := Deep.choose_lt (α := List Int) (n := len) (p := fun i xs => (xs.length = 20 ∧ Bytes xs) ∧ rd w b (off + i * 20) 20 = some (cs8 xs)) (fun i hlt => by
    obtain ⟨cs, y, m, hr, ht⟩ := hi i hlt
    obtain ⟨xs, rfl, hx, bx⟩ := trod_bytes Try.underlying25 cells25 ht
    exact ⟨xs, ⟨hx, bx⟩, hr⟩)
  exact ⟨b, off, X, ha, fun i hlt => (hX i hlt).1, fun i hlt => (hX i hlt).2⟩
end
end Go.Proofs.Qxb6612300a
