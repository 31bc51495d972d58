/- The walk of the law FnFirstMatchesIdentifierOrder (5). -/
import Derived.Test.Qxb6612300aNode
namespace Go.Proofs.Qxb6612300a
open Go.RowKit
set_option linter.unusedVariables false

set_option maxHeartbeats 400000 in
theorem zzBytes5_any (A B : Array Value) (s t : ByteArray) (hs : s.size ≤ maxLen) (ht : t.size ≤ maxLen) (w : World) :
    Calls Try.prog 14 #[.agg A, .string s, .agg B, .string t] w fun e w' => ∃ b, e = .returned (.bool b) ∧ Below w.heap.size w w' := by
  unfold maxLen at hs ht
  go_enter Try.func14, Try.ntmps14
  go_wp2
  all_goals
    go_ret
    exact ⟨_, rfl, ((Below.refl _ _).alloc (Nat.le_refl _) _).alloc (by simp) _⟩

attribute [local go_sem ↓] ex_load25 ex_load29 ex_load31 ex_build31 ex_build100 ex_alloc31 ex_store31 ex_eql31 ex_neq31
attribute [local go_sem] run_ld25 run_ld29 run_ld31 run_al31 run_st31 run_bld31_0 run_bld31 run_bld31' run_eql31 run_neq31 rd_drew rd_drewN rd_alloc_past rd_alloc_row peerC_length z20_length cs8_length

theorem idZ_any (xs : List Int) (hx : xs.length = 20) (w : World) :
    Calls Try.prog 16 #[.agg (cs8 xs).toArray] w fun e w' => e = .returned (.bool (xs == z20)) ∧ Below w.heap.size w w' := idZero_any xs hx w

set_option maxHeartbeats 1000000 in
theorem law5_walk (xs ys : List Int) (s t : ByteArray) (hx : xs.length = 20) (hy : ys.length = 20) (bx : Bytes xs) (yb : Bytes ys) (hs : s.size ≤ maxLen) (ht : t.size ≤ maxLen) (w : World) :
    Calls Try.prog 5 #[.agg (cs8 xs).toArray, .string s, .agg (cs8 ys).toArray, .string t] w fun e w' => e = .returned (.bool true) ∧ Below w.heap.size w w' := by
  have c15 := fun W => nodeFirst_any xs ys s t hx hy bx yb W
  have c16 := fun W => idZ_any ys hy W
  have c11 := fun W => idBelow_any ys xs hy hx yb bx W
  have hfb : Hid (firstB xs ys t = (!((ys == z20) && t.toList.isEmpty) && !lexLt ys xs)) := rfl
  have H15 : Hid (∀ W, Calls Try.prog 15 #[.agg (peerC xs s).toArray, .agg (peerC ys t).toArray] W fun e w' => e = .returned (.bool (firstB xs ys t)) ∧ Below W.heap.size W w') := c15
  have H16 : Hid (∀ W, Calls Try.prog 16 #[.agg (cs8 ys).toArray] W fun e w' => e = .returned (.bool (ys == z20)) ∧ Below W.heap.size W w') := c16
  have H11 : Hid (∀ W, Calls Try.prog 11 #[.agg (cs8 ys).toArray, .agg (cs8 xs).toArray] W fun e w' => e = .returned (.bool (lexLt ys xs)) ∧ Below W.heap.size W w') := c11
  clear c15 c16 c11 bx yb
  generalize firstB xs ys t = fb at *
  generalize (ys == z20) = zb at *
  generalize lexLt ys xs = lb at *
  go_enter Try.func5, Try.ntmps5
  go_wp2_with (go_at_call 14; refine (zzBytes5_any _ _ s t hs ht _).mono ?_)
  rintro e w1 ⟨b0, rfl, hb1⟩
  have hB1 : Below w.heap.size w w1 := (((Below.refl _ _).alloc (Nat.le_refl _) _).alloc (by simp) _).trans (hb1.mono (by simp; omega))
  have hz1 : w.heap.size + 1 < w1.heap.size := by have := hb1.size; simp at this; omega
  have hz0 : w.heap.size < w1.heap.size := by omega
  have r0 : rd w1 w.heap.size 0 20 = some (cs8 xs) := by
    rw [rd_below hb1 (by simp; omega), rd_alloc_past _ _ _ _ _ (by simp), rd_alloc_row _ _ _ _ _ rfl (by simp [cs8, hx])]
  have r1 : rd w1 (w.heap.size + 1) 0 20 = some (cs8 ys) := by
    rw [rd_below hb1 (by simp), rd_alloc_row _ _ _ _ _ (by simp) (by simp [cs8, hy])]
  clear hb1
  cases b0
  · go_wp2
    go_ret
    exact ⟨rfl, hB1⟩
  · by_cases h1 : (65536 : Int) < s.size
    · go_wp2_with fail
      go_ret
      exact ⟨rfl, hB1⟩
    · by_cases h2 : (65536 : Int) < t.size
      · go_wp2_with fail
        go_ret
        exact ⟨rfl, hB1⟩
      · go_wp2_with (go_at_call 15; refine (H15.out _).mono ?_)
        rintro e w2 ⟨rfl, hb2⟩
        have hB2 : Below w.heap.size w w2 := ((hB1.alloc (by omega) _).alloc (by simp; omega) _).trans (hb2.mono (by simp; omega))
        have hz2 : w1.heap.size + 1 < w2.heap.size := by have := hb2.size; simp at this; omega
        have hz20 : w.heap.size < w2.heap.size := by omega
        have hz21 : w.heap.size + 1 < w2.heap.size := by omega
        have q0 : rd w2 w.heap.size 0 20 = some (cs8 xs) := by
          rw [rd_below hb2 (by simp; omega), rd_alloc_past _ _ _ _ _ (by simp; omega), rd_alloc_past _ _ _ _ _ (by omega), r0]
        have q1 : rd w2 (w.heap.size + 1) 0 20 = some (cs8 ys) := by
          rw [rd_below hb2 (by simp; omega), rd_alloc_past _ _ _ _ _ (by simp; omega), rd_alloc_past _ _ _ _ _ (by omega), r1]
        clear hb2 r0 r1 hz0 hz1 hB1
        cases he : t.toList.isEmpty
        · have hfin : Hid (fb = !lb) := by
            show fb = !lb
            rw [hfb.out, he]; simp
          go_wp2_with (go_at_call 11; refine (H11.out _).mono ?_)
          rintro e w3 ⟨rfl, hb3⟩
          go_wp2
          go_ret
          refine ⟨ret_bool ?_, hB2.trans (hb3.mono (by omega))⟩
          rw [hfin.out]; simp
        · cases zb
          · have hfin : Hid (fb = !lb) := by
              show fb = !lb
              rw [hfb.out]; simp
            go_wp2_with (go_at_call 16; refine (H16.out _).mono ?_)
            rintro e w3 ⟨rfl, hb3⟩
            have p0 : rd w3 w.heap.size 0 20 = some (cs8 xs) := by rw [rd_below hb3 hz20, q0]
            have p1 : rd w3 (w.heap.size + 1) 0 20 = some (cs8 ys) := by rw [rd_below hb3 hz21, q1]
            have hz3 := hb3.size
            go_wp2_with (go_at_call 11; refine (H11.out _).mono ?_)
            rintro e w4 ⟨rfl, hb4⟩
            go_wp2
            go_ret
            refine ⟨ret_bool ?_, (hB2.trans (hb3.mono (by omega))).trans (hb4.mono (by omega))⟩
            rw [hfin.out]; simp
          · have hfin : Hid (fb = false) := by
              show fb = false
              rw [hfb.out, he]; simp
            go_wp2_with (go_at_call 16; refine (H16.out _).mono ?_)
            rintro e w3 ⟨rfl, hb3⟩
            go_wp2
            go_ret
            refine ⟨ret_bool ?_, hB2.trans (hb3.mono (by omega))⟩
            rw [hfin.out]; rfl
end Go.Proofs.Qxb6612300a
