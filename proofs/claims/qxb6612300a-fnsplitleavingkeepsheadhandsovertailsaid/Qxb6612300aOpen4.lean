/- The arguments of the laws, opened: a slice of items. -/
import Derived.Test.Qxb6612300aOpen2
import Derived.Test.Qxb6612300aItems2
namespace Go.Proofs.Qxb6612300a
open Go.ChangeShapes Go.WideShapes Go.ChangeAt Go.RowKit
set_option linter.unusedVariables false

section
variable {H : Type} {enc : TypeId × Value → H} {w : World} {base : Nat} {spare : Nat → Bool} {held : Bool}

theorem cells103 : Try.prog.cellsOf 103 = 22 := by kernel_rfl
theorem cells9 : Try.prog.cellsOf 9 = 1 := by kernel_rfl
theorem cells81 : Try.prog.cellsOf 81 = 1 := by kernel_rfl

set_option maxRecDepth 100000 in
theorem trod_item {fuel : Nat} {cs : List Value} {x : DataW H × List MemPlace} (h : DataW.trod enc Try.prog w base spare held fuel 103 cs = some x) :
    ∃ k v n, cs = itemC k v n ∧ k.length = 20 := by
  obtain ⟨ds, m, _, _, hl, hn, hi⟩ := DataW.trod_struct Try.underlying103 h
  rw [cells103] at hl
  have hn3 : ds.length = 3 := hn
  have h0 : DataW.trod enc Try.prog w base spare held m 25 ((cs.drop 0).take (Try.prog.cellsOf 25)) = ds[0]? := hi 0 { name := "Key", type := 25, offset := 0, embedded := false, tag := "", pkgPath := "", byteOffset := 0 } rfl
  have h1 : DataW.trod enc Try.prog w base spare held m 9 ((cs.drop 20).take (Try.prog.cellsOf 9)) = ds[1]? := hi 1 { name := "Value", type := 9, offset := 20, embedded := false, tag := "", pkgPath := "", byteOffset := 24 } rfl
  have h2 : DataW.trod enc Try.prog w base spare held m 81 ((cs.drop 21).take (Try.prog.cellsOf 81)) = ds[2]? := hi 2 { name := "Version", type := 81, offset := 21, embedded := false, tag := "", pkgPath := "", byteOffset := 40 } rfl
  rw [cells25, List.getElem?_eq_getElem (by omega)] at h0
  rw [cells9, List.getElem?_eq_getElem (by omega)] at h1
  rw [cells81, List.getElem?_eq_getElem (by omega)] at h2
  obtain ⟨k, e0, hk, _⟩ := trod_bytes Try.underlying25 cells25 h0
  obtain ⟨v, e1, _, _⟩ := DataW.trod_string Try.underlying9 h1
  obtain ⟨n, e2, _, _⟩ := DataW.trod_int Try.underlying81 h2
  refine ⟨k, v, n, ?_, hk⟩
  rw [List.drop_zero] at e0
  have e3 : cs.drop 20 = [.string v, .int .u64 n] := by
    have a1 : cs.drop 20 = (cs.drop 20).take 1 ++ (cs.drop 20).drop 1 := (List.take_append_drop 1 _).symm
    have a2 : (cs.drop 20).drop 1 = (cs.drop 21).take 1 := by rw [List.drop_drop, List.take_of_length_le (by simp; omega)]
    rw [a1, a2, e1, e2]; rfl
  rw [itemC, ← e0, ← e3, List.take_append_drop]

set_option maxRecDepth 100000 in
theorem open_items {t fuel : Nat} {a : Option Addr} {len cap : Nat} {x : DataW H × List MemPlace} (ht : Try.prog.underlying t = some (.slice 103))
    (h : DataW.trod enc Try.prog w 0 (fun _ => true) held fuel t [.slice a len cap] = some x) :
    len ≤ maxLen ∧ (a = none → len = 0 ∧ cap = 0) ∧ (0 < len → ∃ b off, ∃ K : Nat → List Int, ∃ V : Nat → ByteArray, ∃ N : Nat → Int, a = some ⟨b, off, none⟩ ∧ ItemsAt w b off len K V N) := by
  obtain ⟨hl, hnil, he⟩ := open_elems ht cells103 (by omega) h
  refine ⟨hl, hnil, fun h0 => ?_⟩
  obtain ⟨b, off, ha, hi⟩ := he h0
  obtain ⟨X, hX⟩ := Deep.choose_lt (α := List Int × ByteArray × Int) (n := len) (p := fun i p => p.1.length = 20 ∧ rd w b (off + i * 22) 22 = some (itemC p.1 p.2.1 p.2.2)) (fun i hlt => by
    obtain ⟨cs, y, m, hr, ht⟩ := hi i hlt
    obtain ⟨k, v, n, rfl, hk⟩ := trod_item ht
    exact ⟨(k, v, n), hk, hr⟩)
  exact ⟨b, off, fun i => (X i).1, fun i => (X i).2.1, fun i => (X i).2.2, ha, ⟨fun i hlt => (hX i hlt).1, fun i hlt => (hX i hlt).2⟩⟩
end
end Go.Proofs.Qxb6612300a
