/- The walk of the law FnSplitItemMessagesHalveInOrder (7) where there are two items or more. -/
import Derived.Test.Qxb6612300aLaw7
namespace Go.Proofs.Qxb6612300a
open Go.RowKit
set_option linter.unusedVariables false

attribute [local go_sem ↓] ex_load25 ex_load29 ex_build53 ex_alloc53 ex_store53 ex_load53
attribute [local go_sem] run_ld25 run_ld29 run_ld53 run_bld53 run_al53 run_st53 run_st53u renew_items renew_items' renew_upto renewC_length z20_length rd_alloc_past rd_alloc_row cs8_length

set_option maxRecDepth 100000 in
set_option maxHeartbeats 4000000 in
theorem law7_many (b off len cap : Nat) (K : Nat → List Int) (V : Nat → ByteArray) (N : Nat → Int) (u : List Int) (hu : u.length = 20) (hl : len ≤ maxLen) (h2 : 2 ≤ len) (w : World) (h : ItemsAt w b off len K V N) :
    Calls Try.prog 7 #[.slice (some ⟨b, off, none⟩) len cap, .agg (cs8 u).toArray] w fun e w' => e = .returned (.bool true) ∧ Below w.heap.size w w' := by
  have hbl := h.lt (by omega)
  have hl' := hl
  unfold maxLen at hl'
  have HI : Hid (ItemsAt w b off len K V N) := h
  clear h
  go_enter Try.func7, Try.ntmps7
  go_wp2_with (fail)
  have hB0 : Below w.heap.size w (w.alloc (.cells (cs8 u).toArray 25)) := (Below.refl _ _).alloc (Nat.le_refl _) _
  refine (zzBytes7_any b off len cap K V N _ hl _ (by omega) (HI.out.below hB0 hbl)).mono ?_
  rintro e w1 ⟨⟨b0, rfl⟩, hb1⟩
  have hB1 := hB0.trans (hb1.mono hB0.size)
  have hz1 : w.heap.size < w1.heap.size := by have := hb1.size; simp at this; omega
  have u1 : rd w1 w.heap.size 0 20 = some (cs8 u) := (rd_below hb1 (by simp) _ _).trans (rd_alloc_row _ _ _ _ _ rfl (by simp [cs8, hu]))
  clear hb1 hB0
  cases b0
  · go_wp2
    go_ret
    exact ⟨rfl, hB1⟩
  by_cases hbig : (32768 : Int) < len
  · go_wp2
    go_ret
    exact ⟨rfl, hB1⟩
  have HBIG : Hid (len ≤ 32768) := by show len ≤ 32768; omega
  go_wp2_with (fail)
  refine (itemBytes_any b off len cap K V N hl _ (HI.out.below hB1 hbl)).mono ?_
  rintro e w1' ⟨⟨n, rfl⟩, rfl⟩
  by_cases hn : (1048576 : Int) < n
  · go_wp2
    go_ret
    exact ⟨rfl, hB1⟩
  go_wp2_with (fail)
  refine (toItems_any b off len cap K V N HBIG.out (by omega) _ (HI.out.below hB1 hbl)).mono ?_
  rintro e w2 ⟨rfl, hb2, hg2, hI2⟩
  obtain ⟨g, Hg⟩ : ∃ g, Hid (g = w1'.heap.size) := ⟨_, rfl⟩
  have hB2 := hB1.trans (hb2.mono hB1.size)
  have hz2 : w.heap.size < w2.heap.size := by have := hb2.size; omega
  have u2 : rd w2 w.heap.size 0 20 = some (cs8 u) := (rd_below hb2 hz1 _ _).trans u1
  rw [← Hg.out] at hg2 hI2 ⊢
  have I2 : Hid (ItemsAt w2 g 0 len K V N) := hI2
  have g2 : g < w2.heap.size := hg2
  clear hb2 u1 hI2 hg2 HI hbl
  have HR : Hid (∀ W, ItemsAt W g 0 len K V N → Calls Try.prog 22 #[.slice (some ⟨g, 0, none⟩) len len, .bool false, .int .i64 2, .slice (some ⟨g, 0, none⟩) (len / 2) len, .bool true, .slice (some ⟨g, len / 2 * 22, none⟩) (len - len / 2) (len - len / 2), .bool true] W fun e w' => e = .returned (.bool true) ∧ Below W.heap.size W w') := fun W hI => halvesRight_any g len K V N HBIG.out h2 W hI
  have HZ1 : Hid (∀ W, Calls Try.prog 21 #[.agg #[.slice (some ⟨g, 0, none⟩) len len]] W fun e w' => e = .returned (.tuple #[.bool false, .int .i64 2, .agg #[.slice (some ⟨g, 0, none⟩) (len / 2) len], .bool true, .agg #[.slice (some ⟨g, len / 2 * 22, none⟩) (len - len / 2) (len - len / 2)], .bool true]) ∧ Below W.heap.size W w') := fun W => zzHandover g len HBIG.out h2 W
  have HZ2 : Hid (∀ W, Calls Try.prog 23 #[.agg #[.slice (some ⟨g, 0, none⟩) len len]] W fun e w' => e = .returned (.tuple #[.bool false, .int .i64 2, .agg #[.slice (some ⟨g, 0, none⟩) (len / 2) len], .bool true, .agg #[.slice (some ⟨g, len / 2 * 22, none⟩) (len - len / 2) (len - len / 2)], .bool true]) ∧ Below W.heap.size W w') := fun W => zzCopies g len HBIG.out h2 W
  have HZ3 : Hid (∀ W, Calls Try.prog 24 #[.agg #[.slice (some ⟨g, 0, none⟩) len len]] W fun e w' => e = .returned (.tuple #[.bool false, .int .i64 2, .agg #[.slice (some ⟨g, 0, none⟩) (len / 2) len], .bool true, .agg #[.slice (some ⟨g, len / 2 * 22, none⟩) (len - len / 2) (len - len / 2)], .bool true]) ∧ Below W.heap.size W w') := fun W => zzRestore g len HBIG.out h2 W
  have HZ4 : Hid (∀ W, Calls Try.prog 25 #[.agg (renewC (.slice (some ⟨g, 0, none⟩) len len) u).toArray] W fun e w' => e = .returned (.tuple #[.bool false, .int .i64 2, .agg (renewC (.slice (some ⟨g, 0, none⟩) (len / 2) len) u).toArray, .bool true, .agg (renewC (.slice (some ⟨g, len / 2 * 22, none⟩) (len - len / 2) (len - len / 2)) u).toArray, .bool true]) ∧ Below W.heap.size W w') := fun W => zzRenew g len u hu HBIG.out h2 W
  go_wp2_with (fail)
  refine (HZ1.out _).mono ?_
  rintro e w3 ⟨rfl, hb3⟩
  have hB3 := hB2.trans (hb3.mono hB2.size)
  have hz3 : w.heap.size < w3.heap.size := by have := hb3.size; omega
  have u3 : rd w3 w.heap.size 0 20 = some (cs8 u) := (rd_below hb3 hz2 _ _).trans u2
  have I3 : Hid (ItemsAt w3 g 0 len K V N) := I2.out.below hb3 g2
  have g3 : g < w3.heap.size := by have := hb3.size; omega
  clear hb3 u2 I2
  go_wp2_with (fail)
  refine (HR.out _ (I3.out.below (((Below.refl _ _).alloc (Nat.le_refl _) _).alloc (by simp) _) g3)).mono ?_
  rintro e w4 ⟨rfl, hb4⟩
  have hB4 : Below w.heap.size w w4 := ((hB3.alloc (by omega) _).alloc (by simp; omega) _).trans (hb4.mono (by simp; omega))
  have hC4 : Below w3.heap.size w3 w4 := (((Below.refl _ _).alloc (Nat.le_refl _) _).alloc (by simp) _).trans (hb4.mono (by simp; omega))
  have hz4 : w.heap.size < w4.heap.size := by have := hC4.size; omega
  have u4 : rd w4 w.heap.size 0 20 = some (cs8 u) := (rd_below hC4 hz3 _ _).trans u3
  have I4 : Hid (ItemsAt w4 g 0 len K V N) := I3.out.below hC4 g3
  have g4 : g < w4.heap.size := by have := hC4.size; omega
  clear hb4 u3 hC4 I3
  go_wp2_with (fail)
  refine (HZ2.out _).mono ?_
  rintro e w5 ⟨rfl, hb5⟩
  have hB5 := hB4.trans (hb5.mono hB4.size)
  have hz5 : w.heap.size < w5.heap.size := by have := hb5.size; omega
  have u5 : rd w5 w.heap.size 0 20 = some (cs8 u) := (rd_below hb5 hz4 _ _).trans u4
  have I5 : Hid (ItemsAt w5 g 0 len K V N) := I4.out.below hb5 g4
  have g5 : g < w5.heap.size := by have := hb5.size; omega
  clear hb5 u4 I4
  go_wp2_with (fail)
  refine (HR.out _ (I5.out.below (((Below.refl _ _).alloc (Nat.le_refl _) _).alloc (by simp) _) g5)).mono ?_
  rintro e w6 ⟨rfl, hb6⟩
  have hB6 : Below w.heap.size w w6 := ((hB5.alloc (by omega) _).alloc (by simp; omega) _).trans (hb6.mono (by simp; omega))
  have hC6 : Below w5.heap.size w5 w6 := (((Below.refl _ _).alloc (Nat.le_refl _) _).alloc (by simp) _).trans (hb6.mono (by simp; omega))
  have hz6 : w.heap.size < w6.heap.size := by have := hC6.size; omega
  have u6 : rd w6 w.heap.size 0 20 = some (cs8 u) := (rd_below hC6 hz5 _ _).trans u5
  have I6 : Hid (ItemsAt w6 g 0 len K V N) := I5.out.below hC6 g5
  have g6 : g < w6.heap.size := by have := hC6.size; omega
  clear hb6 u5 hC6 I5
  go_wp2_with (fail)
  refine (HZ3.out _).mono ?_
  rintro e w7 ⟨rfl, hb7⟩
  have hB7 := hB6.trans (hb7.mono hB6.size)
  have hz7 : w.heap.size < w7.heap.size := by have := hb7.size; omega
  have u7 : rd w7 w.heap.size 0 20 = some (cs8 u) := (rd_below hb7 hz6 _ _).trans u6
  have I7 : Hid (ItemsAt w7 g 0 len K V N) := I6.out.below hb7 g6
  have g7 : g < w7.heap.size := by have := hb7.size; omega
  clear hb7 u6 I6
  go_wp2_with (fail)
  refine (HR.out _ (I7.out.below (((Below.refl _ _).alloc (Nat.le_refl _) _).alloc (by simp) _) g7)).mono ?_
  rintro e w8 ⟨rfl, hb8⟩
  have hB8 : Below w.heap.size w w8 := ((hB7.alloc (by omega) _).alloc (by simp; omega) _).trans (hb8.mono (by simp; omega))
  have hC8 : Below w7.heap.size w7 w8 := (((Below.refl _ _).alloc (Nat.le_refl _) _).alloc (by simp) _).trans (hb8.mono (by simp; omega))
  have hz8 : w.heap.size < w8.heap.size := by have := hC8.size; omega
  have u8 : rd w8 w.heap.size 0 20 = some (cs8 u) := (rd_below hC8 hz7 _ _).trans u7
  have I8 : Hid (ItemsAt w8 g 0 len K V N) := I7.out.below hC8 g7
  have g8 : g < w8.heap.size := by have := hC8.size; omega
  clear hb8 u7 hC8 I7
  go_wp2_with (fail)
  refine (HZ4.out _).mono ?_
  rintro e w9 ⟨rfl, hb9⟩
  have hB9 := hB8.trans (hb9.mono hB8.size)
  have hz9 : w.heap.size < w9.heap.size := by have := hb9.size; omega
  have u9 : rd w9 w.heap.size 0 20 = some (cs8 u) := (rd_below hb9 hz8 _ _).trans u8
  have I9 : Hid (ItemsAt w9 g 0 len K V N) := I8.out.below hb9 g8
  have g9 : g < w9.heap.size := by have := hb9.size; omega
  clear hb9 u8 I8
  have H13 : Hid (∀ W, Calls Try.prog 13 #[.agg (cs8 u).toArray, .agg (cs8 u).toArray] W fun e w' => e = .returned (.bool true) ∧ Below W.heap.size W w') := fun W => by
    have := idSame_any u u hu hu W
    rwa [beq_self_eq_true] at this
  go_wp2_with (fail)
  refine (HR.out _ (I9.out.below (((Below.refl _ _).alloc (Nat.le_refl _) _).alloc (by simp) _) g9)).mono ?_
  rintro e w10 ⟨rfl, hb10⟩
  have hB10 : Below w.heap.size w w10 := ((hB9.alloc (by omega) _).alloc (by simp; omega) _).trans (hb10.mono (by simp; omega))
  have hC10 : Below w9.heap.size w9 w10 := (((Below.refl _ _).alloc (Nat.le_refl _) _).alloc (by simp) _).trans (hb10.mono (by simp; omega))
  have u10 : rd w10 w.heap.size 0 20 = some (cs8 u) := (rd_below hC10 hz9 _ _).trans u9
  have v1 : rd w10 w9.heap.size 1 20 = some (cs8 u) := by
    rw [rd_below hb10 (by simp; omega), rd_alloc_past _ _ _ _ _ (by simp), renew_upto _ _ _ _ rfl hu]
  have v2 : rd w10 (w9.heap.size + 1) 1 20 = some (cs8 u) := by
    rw [rd_below hb10 (by simp), renew_upto _ _ _ _ (by simp) hu]
  have z10 : w9.heap.size + 1 < w10.heap.size := by have := hb10.size; simp at this; omega
  have z10' : w.heap.size < w10.heap.size := by omega
  clear hb10 hC10 u9 I9 HR HZ1 HZ2 HZ3 HZ4
  go_wp2_with (fail)
  refine (H13.out _).mono ?_
  rintro e w11 ⟨rfl, hb11⟩
  have u11 : rd w11 w.heap.size 0 20 = some (cs8 u) := (rd_below hb11 z10' _ _).trans u10
  have v3 : rd w11 (w9.heap.size + 1) 1 20 = some (cs8 u) := (rd_below hb11 z10 _ _).trans v2
  have hB11 := hB10.trans (hb11.mono hB10.size)
  clear hb11
  go_wp2_with (fail)
  refine (H13.out _).mono ?_
  rintro e w12 ⟨rfl, hb12⟩
  have hB12 := hB11.trans (hb12.mono hB11.size)
  go_wp2
  go_ret
  exact ⟨rfl, hB12⟩
end Go.Proofs.Qxb6612300a
