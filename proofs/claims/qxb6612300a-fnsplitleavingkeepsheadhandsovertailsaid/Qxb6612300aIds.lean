/- The walks of idBelow (11), idSame (13), idZero (16). -/
import Derived.Test.Qxb6612300aRows
import Derived.Test.Qxb6612300aPlain
import Derived.WalkKit
import Derived.WalkSpells
import Derived.WalkLawsBesides
import Derived.Deep.MidRow
import Derived.Deep.QuietTactic
import Derived.BigQuiet
namespace Go.Proofs.Qxb6612300a
open Go.RowKit
set_option linter.unusedVariables false

/-- the cells of a row of bytes -/
def cs8 (xs : List Int) : List Value := xs.map (Value.int .u8)
theorem cs8_at {xs : List Int} {k : Nat} (h : k < xs.length) : (cs8 xs).toArray[k]? = some (.int .u8 (xs.getD k 0)) := by
  simp [cs8, List.getD, h]
theorem cs8_length (xs : List Int) : (cs8 xs).length = xs.length := by simp [cs8]

theorem bel_drewN {B : Nat} {w w' : World} (h : Below B w w') (n : Nat) : Below B w (w'.drewN n) := ⟨h.os, h.tape, h.output, h.size, h.block⟩
theorem ret_bool {a b : Bool} (h : a = b) : Ending.returned (.bool a) = .returned (.bool b) := by rw [h]

theorem bor_one (b : Bool) : (bor b == 1) = b := by cases b <;> rfl

set_option maxHeartbeats 400000 in
theorem idBelow_any (xs ys : List Int) (hx : xs.length = 20) (hy : ys.length = 20) (bx : Bytes xs) (yb : Bytes ys) (w : World) :
    Calls Try.prog 11 #[.agg (cs8 xs).toArray, .agg (cs8 ys).toArray] w fun e w' => e = .returned (.bool (lexLt xs ys)) ∧ Below w.heap.size w w' := by
  go_enter Try.func11, Try.ntmps11
  go_wp2
  have HB : Below w.heap.size w ((w.alloc (Obj.cells (cs8 xs).toArray 25)).alloc (Obj.cells (cs8 ys).toArray 25)) :=
    ((Below.refl _ _).alloc (Nat.le_refl _) _).alloc (by simp) _
  have HA : ∀ k, k < 20 → ((w.alloc (Obj.cells (cs8 xs).toArray 25)).alloc (Obj.cells (cs8 ys).toArray 25)).cell? ⟨w.heap.size, k, none⟩ = some (.int .u8 (xs.getD k 0)) := by
    intro k hk
    rw [World.cell?_alloc_past _ _ _ (by simp), World.cell?_alloc_at _ _ _ _ rfl, cs8_at (by omega)]
  have HC : ∀ k, k < 20 → ((w.alloc (Obj.cells (cs8 xs).toArray 25)).alloc (Obj.cells (cs8 ys).toArray 25)).cell? ⟨w.heap.size + 1, k, none⟩ = some (.int .u8 (ys.getD k 0)) := by
    intro k hk
    rw [World.cell?_alloc_at _ _ _ _ (by simp), cs8_at (by omega)]
  generalize ((w.alloc (Obj.cells (cs8 xs).toArray 25)).alloc (Obj.cells (cs8 ys).toArray 25)) = W0 at *
  go_loopw [5, 6] (fun b i wr => ∃ n, wr = W0.drewN n ∧ ∃ m : Nat, m ≤ 20 ∧ i = .int .i64 ((m : Int) - 1) ∧ b = .int .i64 (bor (lexLt (xs.drop m) (ys.drop m)))) (fun _ i _ => (intOf i + 1).toNat)
  case atStart => exact ⟨0, rfl, 20, by omega, by rfl, by rw [List.drop_eq_nil_of_le (by omega), List.drop_eq_nil_of_le (by omega)]; rfl⟩
  case round =>
    obtain ⟨n, rfl, m, hm, rfl, rfl⟩ := hrel
    cases m with
    | zero =>
      go_wp2
      go_ret
      exact ⟨ret_bool (bor_one _), bel_drewN HB n⟩
    | succ m =>
      have e1 : ((m + 1 : Nat) : Int) - 1 = m := by omega
      rw [e1]
      have hd := HA m (by omega)
      have he := HC m (by omega)
      have hbx := bx.at m
      have hby := yb.at m
      have HR := lexLt_round (xs := xs) (ys := ys) (m := m) (by omega) (by omega)
      clear HA HC e1
      generalize xs.getD m 0 = x at *
      generalize ys.getD m 0 = y at *
      have hlb := bor_bd (lexLt (xs.drop (m + 1)) (ys.drop (m + 1)))
      generalize bor (lexLt (xs.drop (m + 1)) (ys.drop (m + 1))) = br at *
      have HR' : Hid (lexLt (xs.drop m) (ys.drop m) = decide (x - y - br < 0)) := HR
      clear HR
      go_wp2
      go_quiet (fail)
      go_wp2
      · refine ⟨⟨n + nq, rfl, m, by omega, rfl, ?_⟩, by simp [intOf]⟩
        rw [HR'.out, decide_eq_true (by omega)]; rfl
      · refine ⟨⟨n + nq, rfl, m, by omega, rfl, ?_⟩, by simp [intOf]⟩
        rw [HR'.out, decide_eq_false (by omega)]; rfl

theorem beq_take_succ {xs ys : List Int} {k : Nat} (hx : k < xs.length) (hy : k < ys.length) (h : xs.take k = ys.take k) (e : xs.getD k 0 = ys.getD k 0) : xs.take (k + 1) = ys.take (k + 1) := by
  rw [List.take_succ_eq_append_getElem hx, List.take_succ_eq_append_getElem hy, h]
  have : xs[k] = ys[k] := by simpa [List.getD, hx, hy] using e
  rw [this]

set_option maxHeartbeats 400000 in
theorem idSame_any (xs ys : List Int) (hx : xs.length = 20) (hy : ys.length = 20) (w : World) :
    Calls Try.prog 13 #[.agg (cs8 xs).toArray, .agg (cs8 ys).toArray] w fun e w' => e = .returned (.bool (xs == ys)) ∧ Below w.heap.size w w' := by
  go_enter Try.func13, Try.ntmps13
  go_wp2
  have HB : Below w.heap.size w ((w.alloc (Obj.cells (cs8 xs).toArray 25)).alloc (Obj.cells (cs8 ys).toArray 25)) :=
    ((Below.refl _ _).alloc (Nat.le_refl _) _).alloc (by simp) _
  have HA : ∀ k, k < 20 → ((w.alloc (Obj.cells (cs8 xs).toArray 25)).alloc (Obj.cells (cs8 ys).toArray 25)).cell? ⟨w.heap.size, k, none⟩ = some (.int .u8 (xs.getD k 0)) := by
    intro k hk
    rw [World.cell?_alloc_past _ _ _ (by simp), World.cell?_alloc_at _ _ _ _ rfl, cs8_at (by omega)]
  have HC : ∀ k, k < 20 → ((w.alloc (Obj.cells (cs8 xs).toArray 25)).alloc (Obj.cells (cs8 ys).toArray 25)).cell? ⟨w.heap.size + 1, k, none⟩ = some (.int .u8 (ys.getD k 0)) := by
    intro k hk
    rw [World.cell?_alloc_at _ _ _ _ (by simp), cs8_at (by omega)]
  generalize ((w.alloc (Obj.cells (cs8 xs).toArray 25)).alloc (Obj.cells (cs8 ys).toArray 25)) = W0 at *
  go_loopw [5] (fun i wr => ∃ n, wr = W0.drewN n ∧ ∃ m : Nat, m ≤ 20 ∧ i = .int .i64 (m : Int) ∧ Hid (xs.take m = ys.take m)) (fun i _ => (20 - intOf i).toNat)
  case atStart => exact ⟨0, rfl, 0, by omega, by rfl, (rfl : xs.take 0 = ys.take 0)⟩
  case round =>
    obtain ⟨n, rfl, m, hm, rfl, HT⟩ := hrel
    by_cases hlt : m < 20
    · have hd := HA m (by omega)
      have he := HC m (by omega)
      have HS : Hid (xs.getD m 0 = ys.getD m 0 → xs.take (m + 1) = ys.take (m + 1)) := beq_take_succ (by omega) (by omega) HT.out
      have HN : Hid (xs.getD m 0 ≠ ys.getD m 0 → (xs == ys) = false) := fun h => by
        rw [beq_eq_false_iff_ne]; intro e; exact h (by rw [e])
      clear HA HC
      generalize xs.getD m 0 = x at *
      generalize ys.getD m 0 = y at *
      go_wp2
      go_quiet (fail)
      go_wp2
      · rename_i h
        go_ret
        exact ⟨ret_bool (HN.out (by simpa using h)).symm, bel_drewN (bel_drewN HB n) nq⟩
      · rename_i h
        exact ⟨⟨n + nq, rfl, m + 1, by omega, by go_num, HS.out (by simpa using h)⟩, by simp [intOf]; omega⟩
    · go_wp2
      go_ret
      refine ⟨ret_bool ?_, bel_drewN HB n⟩
      have := HT.out
      rw [List.take_of_length_le (by omega), List.take_of_length_le (by omega)] at this
      rw [this]; exact (beq_self_eq_true ys).symm

theorem getD_rep (n k : Nat) : (List.replicate n (0 : Int)).getD k 0 = 0 := by
  rw [List.getD, List.getElem?_replicate]; split <;> rfl

set_option maxHeartbeats 400000 in
theorem idZero_any (xs : List Int) (hx : xs.length = 20) (w : World) :
    Calls Try.prog 16 #[.agg (cs8 xs).toArray] w fun e w' => e = .returned (.bool (xs == List.replicate 20 0)) ∧ Below w.heap.size w w' := by
  obtain ⟨ys, hys⟩ : ∃ ys, ys = List.replicate 20 (0 : Int) := ⟨_, rfl⟩
  have hy : ys.length = 20 := by simp [hys]
  have hz : ∀ k, ys.getD k 0 = 0 := by intro k; rw [hys]; exact getD_rep _ _
  rw [← hys]
  clear hys
  go_enter Try.func16, Try.ntmps16
  go_wp2
  have HB : Below w.heap.size w (w.alloc (Obj.cells (cs8 xs).toArray 25)) := (Below.refl _ _).alloc (Nat.le_refl _) _
  have HA : ∀ k, k < 20 → (w.alloc (Obj.cells (cs8 xs).toArray 25)).cell? ⟨w.heap.size, k, none⟩ = some (.int .u8 (xs.getD k 0)) := by
    intro k hk
    rw [World.cell?_alloc_at _ _ _ _ rfl, cs8_at (by omega)]
  generalize (w.alloc (Obj.cells (cs8 xs).toArray 25)) = W0 at *
  go_loop [3] (fun i => ∃ m : Nat, m ≤ 20 ∧ i = .int .i64 (m : Int) ∧ Hid (xs.take m = ys.take m)) (fun i => (20 - intOf i).toNat)
  case atStart => exact ⟨0, by omega, by rfl, (rfl : xs.take 0 = ys.take 0)⟩
  case round =>
    obtain ⟨m, hm, rfl, HT⟩ := hrel
    by_cases hlt : m < 20
    · have hd := HA m (by omega)
      have HS : Hid (xs.getD m 0 = 0 → xs.take (m + 1) = ys.take (m + 1)) := fun e => beq_take_succ (by omega) (by omega) HT.out (by rw [e, hz])
      have HN : Hid (xs.getD m 0 ≠ 0 → (xs == ys) = false) := fun h => by
        rw [beq_eq_false_iff_ne]; intro e; exact h (by rw [e, hz])
      clear HA hz
      generalize xs.getD m 0 = x at *
      go_wp2
      · have h : (x != 0) = true := by assumption
        go_ret
        exact ⟨ret_bool (HN.out (by simpa using h)).symm, HB⟩
      · have h : (x != 0) = false := by assumption
        go_round
        case rel => exact ⟨m + 1, by omega, by go_num, HS.out (by simpa using h)⟩
        case measure => simp [intOf]; omega
    · clear hz
      go_wp2
      go_ret
      refine ⟨ret_bool ?_, HB⟩
      have := HT.out
      rw [List.take_of_length_le (by omega), List.take_of_length_le (by omega)] at this
      rw [this]; exact (beq_self_eq_true ys).symm
end Go.Proofs.Qxb6612300a
