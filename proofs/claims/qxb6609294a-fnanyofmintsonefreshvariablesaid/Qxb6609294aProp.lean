/- propagate 18, where nothing watches the literal that has become false. -/
import Derived.Test.Qxb6609294aAsg
import Derived.LoopN
namespace Go.Proofs.Qxb6609294a
open Go.RowKit
set_option linter.unusedVariables false

section
variable {w : World} {p : Nat} {V : Nat → Value} {X : Nat → List Value} {h : Int} {f : Bool}

set_option maxHeartbeats 2000000 in
set_option maxRecDepth 100000 in
theorem propagate_ok (n v n5 : Nat) (S : Sol w p V X n5 f) (l1 : (X 1).length = 2 * n) (hv : v < n) (hn : n ≤ 100000) (h5 : (X 5).length = n5 + 1) (hn5 : n5 ≤ 100000) (ht : (X 5)[n5]? = some (.int .i32 (2 * v + 1 : Nat))) (hw : V (16 + 2 * v) = nilS) :
    Calls Try.prog 18 #[.pointer (some ⟨p, 0, none⟩)] w fun e w' => e = .returned (.int .i64 (-1)) ∧ Sol w' p V X ((n5 : Int) + 1) f ∧ Fr p V w V w' := by
  obtain ⟨g5, c5, hV5, hg5, hg5'⟩ := S.form1 5 (by omega)
  rw [h5] at hV5
  obtain ⟨g1, c1, hV1, hg1, hg1'⟩ := S.form1 1 (by omega)
  rw [l1] at hV1
  have hnot := fun w => fnNot (2 * v + 1 : Nat) w (by omega) (by omega)
  have e2 : lnot ((2 * v + 1 : Nat) : Int) = ((2 * v : Nat) : Int) := by unfold lnot; rw [if_neg (by omega)]; omega
  rw [e2] at hnot
  obtain ⟨l, hl⟩ : ∃ l : Nat, l = 2 * v + 1 := ⟨_, rfl⟩
  obtain ⟨q, hq⟩ : ∃ q : Nat, q = 2 * v := ⟨_, rfl⟩
  rw [← hl] at hnot ht
  rw [← hq] at hnot hw
  have hqn : q < 2 * n := by omega
  have HN : Hid _ := hnot
  have HL : Hid (l = 2 * v + 1 ∧ q = 2 * v) := ⟨hl, hq⟩
  clear hl hq hnot e2
  obtain ⟨w1, hw1, S1, F1, hB, cB⟩ : ∃ w1, w1 = w.alloc (.cells #[.pointer (some ⟨p, 0, none⟩)] 24) ∧ Sol w1 p V X n5 f ∧ Fr p V w V w1 ∧ Free p V w1 w.heap.size ∧ w1.cell? ⟨w.heap.size, 0, none⟩ = some (.pointer (some ⟨p, 0, none⟩)) :=
    ⟨_, rfl, S.below ((Below.refl _ _).alloc (Nat.le_refl _) _), Fr.of_below ((Below.refl _ _).alloc (Nat.le_refl _) _), Free.new S (Nat.le_refl _) (by simp), by rw [cell_of_row _ _ 0 _ 24 (0, 0) (heap_alloc_new w _)]; rfl⟩
  have HS1 : Hid _ := S1
  have HF1 : Hid _ := F1
  have HB : Hid _ := hB
  clear S S1 F1 hB
  go_enter Try.func18, Try.ntmps18
  go_wp2_with (fail)
  rw [← hw1]
  clear hw1
  generalize w.heap.size = bB at *
  have k7 : w1.cell? ⟨p, 7, none⟩ = some (.int .i64 n5) := HS1.out.cell 7
  have k5 : w1.cell? ⟨p, 5, none⟩ = some (.slice (some ⟨g5, 0, none⟩) (n5 + 1) c5) := by rw [← hV5]; exact HS1.out.cell 5
  have r5 : w1.cell? ⟨g5, n5, none⟩ = some (.int .i32 l) := by rw [HS1.out.rowCell hV5 h5 n5 (by omega)]; exact ht
  refine wp_loop_rounds 2 ?_
  rw [rounds_succ]
  go_wp2_with (fail)
  go_quiet (fail)
  obtain ⟨w2, hw2, HS2, HF2, HB2, cB2, k72, k52, r52⟩ : ∃ w2, w2 = w1.drewN nq ∧ Hid (Sol w2 p V X n5 f) ∧ Hid (Fr p V w V w2) ∧ Hid (Free p V w2 bB) ∧ w2.cell? ⟨bB, 0, none⟩ = some (.pointer (some ⟨p, 0, none⟩)) ∧ w2.cell? ⟨p, 7, none⟩ = some (.int .i64 n5) ∧ w2.cell? ⟨p, 5, none⟩ = some (.slice (some ⟨g5, 0, none⟩) (n5 + 1) c5) ∧ w2.cell? ⟨g5, n5, none⟩ = some (.int .i32 l) :=
    ⟨_, rfl, HS1.out.below (belowDrewN (Below.refl _ _) nq), HF1.out.trans (Fr.of_below (belowDrewN (Below.refl _ _) nq)), HB.out, cB, k7, k5, r5⟩
  rw [← hw2]
  clear hw2 HS1 HF1 HB cB k7 k5 r5
  go_wp2_with (fail)
  go_quiet ((go_at_call 14; exact Calls.quiet_of_same (HN.out _)))
  obtain ⟨w3, hw3, S3, F3, HB3, cB3, k73⟩ : ∃ w3, w3 = w2.drewN nq ∧ (Sol w3 p V X n5 f) ∧ (Fr p V w V w3) ∧ Hid (Free p V w3 bB) ∧ w3.cell? ⟨bB, 0, none⟩ = some (.pointer (some ⟨p, 0, none⟩)) ∧ w3.cell? ⟨p, 7, none⟩ = some (.int .i64 n5) :=
    ⟨_, rfl, HS2.out.below (belowDrewN (Below.refl _ _) nq), HF2.out.trans (Fr.of_below (belowDrewN (Below.refl _ _) nq)), HB2.out, cB2, k72⟩
  rw [← hw3]
  clear hw3 HS2 HF2 HB2 cB2 k72 k52 r52
  have k13 : w3.cell? ⟨p, 1, none⟩ = some (.slice (some ⟨g1, 0, none⟩) (2 * n) c1) := by rw [← hV1]; exact S3.cell 1
  have r13 : w3.cell? ⟨g1, q, none⟩ = some (.slice none 0 0) := by rw [S3.watchCell hV1 l1 q hqn, hw]
  have f13 := S3.rowFree hV1 l1 q
  have f73 := S3.frozen 7
  have hb0 : bB ≠ p := HB3.out.2.1
  have hb1 : bB ≠ g1 := fun e => HB3.out.2.2 1 (by rw [hV1, e]; rfl)
  have hgp : g1 ≠ p := by omega
  obtain ⟨S4, F4⟩ := S3.head ((n5 : Int) + 1)
  obtain ⟨S5, F5⟩ := S4.putNil hV1 l1 q hqn hw
  have HS5 : Hid _ := S5
  have HF5 : Hid _ := (F3.trans F4).trans F5
  clear S3 S4 S5 F3 F4 F5
  go_wp2_with (fail)
  refine wp_loop_once ?_
  go_wp2_with (fail)
  rw [rounds_succ]
  obtain ⟨w6, hw6, S6, HF6, cB6⟩ : ∃ w6, w6 = (w3.setCell ⟨p, 7, none⟩ (.int .i64 ((n5 : Int) + 1))).setCell ⟨g1, q, none⟩ (.slice none 0 0) ∧ (Sol w6 p V X ((n5 : Int) + 1) f) ∧ Hid (Fr p V w V w6) ∧ w6.cell? ⟨bB, 0, none⟩ = some (.pointer (some ⟨p, 0, none⟩)) := by
    refine ⟨_, rfl, HS5.out, HF5.out, ?_⟩
    rw [← cB3]
    exact (World.cell?_of_block (a := ⟨bB, 0, none⟩) (Below.heap_setCell _ _ _ _ hb1)).trans (World.cell?_of_block (a := ⟨bB, 0, none⟩) (Below.heap_setCell _ _ _ _ hb0))
  rw [← hw6]
  clear hw6 HS5 HF5 cB3 k73 k13 r13 f13 f73
  have k76 : w6.cell? ⟨p, 7, none⟩ = some (.int .i64 ((n5 : Int) + 1)) := S6.cell 7
  have k56 : w6.cell? ⟨p, 5, none⟩ = some (.slice (some ⟨g5, 0, none⟩) (n5 + 1) c5) := by rw [← hV5]; exact S6.cell 5
  have HS6 : Hid _ := S6
  clear S6
  go_wp2_with (fail)
  go_quiet (fail)
  go_wp2
  go_ret
  exact ⟨rfl, HS6.out.below (belowDrewN (Below.refl _ _) nq), HF6.out.trans (Fr.of_below (belowDrewN (Below.refl _ _) nq))⟩
end
end Go.Proofs.Qxb6609294a
