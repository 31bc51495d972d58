/- The arguments of the laws, opened: rows of twenty bytes. -/
import Derived.Test.Qxb6612300aLaws
import Derived.ProofKit
import Derived.OpenShut
import Derived.ShutString
import Derived.ChangeOld
import Derived.Deep.Slices
namespace Go.Proofs.Qxb6612300a
open Go.ChangeShapes Go.WideShapes Go.ChangeAt Go.RowKit
set_option linter.unusedVariables false

theorem own : ownKnob Try.prog.godebug = none := by kernel_rfl
theorem laidOut : laidOutB Try.prog = true := by kernel_rfl
theorem cells25 : Try.prog.cellsOf 25 = 20 := by kernel_rfl
theorem cells5 : Try.prog.cellsOf 5 = 1 := by kernel_rfl

section
variable {H : Type} {enc : TypeId × Value → H} {w : World} {base : Nat} {spare : Nat → Bool} {held : Bool}

/-- a row of bytes, by its reading -/
theorem trod_bytes {t fuel : Nat} {cs : List Value} {x : DataW H × List MemPlace} (ht : Try.prog.underlying t = some (.array 20 5)) (hc : Try.prog.cellsOf t = 20) (h : DataW.trod enc Try.prog w base spare held fuel t cs = some x) :
    ∃ xs, cs = cs8 xs ∧ xs.length = 20 ∧ Bytes xs := by
  obtain ⟨ds, m, _, _, hl, hn, hi⟩ := DataW.trod_array ht h
  rw [hc] at hl
  have hcell : ∀ i, i < 20 → ∃ n : Int, cs[i]? = some (.int .u8 n) ∧ 0 ≤ n ∧ n ≤ 255 := by
    intro i h20
    have h1 := hi i h20
    rw [cells5, Nat.mul_one, List.getElem?_eq_getElem (by omega)] at h1
    obtain ⟨n, e, _, wf⟩ := DataW.trod_int Try.underlying5 h1
    have hb := bounds_u8 wf
    have hlt : i < cs.length := by omega
    rw [List.drop_eq_getElem_cons hlt, List.take_succ_cons, List.take_zero] at e
    refine ⟨n, ?_, hb⟩
    rw [List.getElem?_eq_getElem hlt]
    simpa using e
  obtain ⟨f, hf⟩ := Deep.choose_lt (α := Int) (p := fun i n => cs[i]? = some (.int .u8 n) ∧ 0 ≤ n ∧ n ≤ 255) hcell
  refine ⟨(List.range 20).map f, ?_, by simp, ?_⟩
  · apply List.ext_getElem?
    intro i
    by_cases h20 : i < 20
    · rw [(hf i h20).1]; simp [cs8, h20]
    · rw [List.getElem?_eq_none (by omega), List.getElem?_eq_none (by simp [cs8]; omega)]
  · intro x hx
    obtain ⟨i, hi', rfl⟩ := List.mem_map.1 hx
    exact (hf i (List.mem_range.1 hi')).2

set_option maxRecDepth 100000 in
/-- an argument that is a row of bytes -/
theorem open_bytes {r : Reach} {b0 t : Nat} {v : Value} {d : DataW H} {ps : List MemPlace} (ht : Try.prog.underlying t = some (.array 20 5)) (hc : Try.prog.cellsOf t = 20)
    (hval : Value.okWide Try.prog w r b0 t v) (hd : DataW.Trod enc Try.prog w base spare held t v d ps) : ∃ xs, v = .agg (cs8 xs).toArray ∧ xs.length = 20 ∧ Bytes xs := by
  unfold Value.okWide at hval
  rw [ht] at hval
  obtain ⟨cs, rfl, _, _⟩ := hval
  obtain ⟨fuel, hf⟩ := hd
  obtain ⟨xs, e, hx, bx⟩ := trod_bytes ht hc hf
  refine ⟨xs, ?_, hx, bx⟩
  simp only [Value.cells] at e
  rw [← e]
end
end Go.Proofs.Qxb6612300a
