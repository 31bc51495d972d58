/- The walk of the law FnSplitItemMessagesHalveInOrder (7). -/
import Derived.Test.Qxb6612300aHalves
namespace Go.Proofs.Qxb6612300a
open Go.RowKit
set_option linter.unusedVariables false

attribute [local go_sem ↓] ex_load25 ex_load29 ex_build53 ex_alloc53 ex_store53 ex_load53
attribute [local go_sem] run_ld25 run_ld29 run_ld53 run_bld53 run_al53 run_st53 renew_items renew_items' renew_upto renewC_length z20_length rd_alloc_past rd_alloc_row cs8_length

/-- a fresh variable stored into whole, one block laid behind it -/
theorem run_stA_under {P : Program} {w : World} {Z : Array Value} {cs : List Value} {t b n : Nat} (o : Obj) (hb : b = w.heap.size) (hz : Z.size = n) (hl : cs.length = n) (h1 : ∀ v ∈ cs, v.oneCell' = true) (hi : (P.info? t).map (·.size) = some n) :
    (stA t (.pointer (some ⟨b, 0, none⟩)) (.agg cs.toArray)).run P ((w.alloc (.cells Z t)).alloc o) = .ok .skip ((w.alloc (.cells cs.toArray t)).alloc o) := by
  subst hb
  have hs := run_storeVar_row (P := P) ((w.alloc (.cells Z t)).alloc o) w.heap.size t t Z cs.toArray (heap_alloc2_old w _ _) (by rw [hi]; simp [hl]) (by simp; omega) (all_oneCell_toArray h1)
  have e : ((w.alloc (.cells Z t)).alloc o).setRow w.heap.size cs.toArray = (w.alloc (.cells cs.toArray t)).alloc o := by
    unfold World.setRow World.alloc
    congr 1
    apply Array.ext_getElem?
    intro k
    simp only [Array.getElem?_modify, Array.getElem?_push, Array.size_push]
    by_cases hk : k = w.heap.size
    · subst hk; simp
    · have hk' : ¬ w.heap.size = k := fun e => hk e.symm
      simp [hk, hk']
  rw [e] at hs
  simp only [stA, Instr.storeAt, Instr.sureAddr, Sem.run_bind, Sem.run_pure, Result.andThen_ok, hs]
theorem run_st53u (w : World) (S : Value) (u : List Int) (a : Option Addr) (n c : Nat) (v : List Int) (b : Nat) (o : Obj) (hb : b = w.heap.size) (hu : u.length = 20) (hv : v.length = 20) :
    (stA 53 (.pointer (some ⟨b, 0, none⟩)) (.agg (renewC (.slice a n c) v).toArray)).run Try.prog ((w.alloc (.cells (renewC S u).toArray 53)).alloc o) = .ok .skip ((w.alloc (.cells (renewC (.slice a n c) v).toArray 53)).alloc o) :=
  run_stA_under (n := 21) o hb (by simp [renewC_length S u hu]) (renewC_length _ v hv) (one_renewC a n c v) size53
attribute [local go_sem] run_st53u

/-- what toItems hands back where there are fewer than two items -/
def FewTo (len : Nat) (W : World) (e : Ending) (w' : World) : Prop := ∃ a c, e = .returned (.slice a len c) ∧ Below W.heap.size W w'

set_option maxRecDepth 100000 in
set_option maxHeartbeats 4000000 in
theorem law7_few (a : Option Addr) (len cap : Nat) (u : List Int) (hu : u.length = 20) (hl : len ≤ maxLen) (h2 : len < 2) (w : World)
    (H18 : ∀ W, Below w.heap.size w W → Calls Try.prog 18 #[.slice a len cap, .agg (cs8 u).toArray] W fun e w' => IsBool e ∧ Below W.heap.size W w')
    (H19 : ∀ W, Below w.heap.size w W → Calls Try.prog 19 #[.slice a len cap] W fun e w' => IsInt e ∧ w' = W)
    (H20 : ∀ W, Below w.heap.size w W → Calls Try.prog 20 #[.slice a len cap] W fun e w' => FewTo len W e w') :
    Calls Try.prog 7 #[.slice a len cap, .agg (cs8 u).toArray] w fun e w' => e = .returned (.bool true) ∧ Below w.heap.size w w' := by
  have G18 : Hid (∀ W, Below w.heap.size w W → Calls Try.prog 18 #[.slice a len cap, .agg (cs8 u).toArray] W fun e w' => IsBool e ∧ Below W.heap.size W w') := H18
  have G19 : Hid (∀ W, Below w.heap.size w W → Calls Try.prog 19 #[.slice a len cap] W fun e w' => IsInt e ∧ w' = W) := H19
  have G20 : Hid (∀ W, Below w.heap.size w W → Calls Try.prog 20 #[.slice a len cap] W fun e w' => FewTo len W e w') := H20
  clear H18 H19 H20
  unfold maxLen at hl
  go_enter Try.func7, Try.ntmps7
  go_wp2_with (fail)
  have hB0 : Below w.heap.size w (w.alloc (.cells (cs8 u).toArray 25)) := (Below.refl _ _).alloc (Nat.le_refl _) _
  refine (G18.out _ hB0).mono ?_
  rintro e w1 ⟨⟨b0, rfl⟩, hb1⟩
  have hB1 := hB0.trans (hb1.mono hB0.size)
  have hz1 : w.heap.size < w1.heap.size := by have := hb1.size; simp at this; omega
  have u1 : rd w1 w.heap.size 0 20 = some (cs8 u) := (rd_below hb1 (by simp) _ _).trans (rd_alloc_row _ _ _ _ _ rfl (by simp [cs8, hu]))
  clear hb1 hB0
  cases b0
  · go_wp2
    go_ret
    exact ⟨rfl, hB1⟩
  go_wp2_with (fail)
  refine (G19.out _ hB1).mono ?_
  rintro e w1' ⟨⟨n, rfl⟩, rfl⟩
  by_cases hn : (1048576 : Int) < n
  · go_wp2
    go_ret
    exact ⟨rfl, hB1⟩
  go_wp2_with (fail)
  refine (G20.out _ hB1).mono ?_
  rintro e w2 ⟨a', c', rfl, hb2⟩
  have hB2 := hB1.trans (hb2.mono hB1.size)
  have hz2 : w.heap.size < w2.heap.size := by have := hb2.size; omega
  have u2 : rd w2 w.heap.size 0 20 = some (cs8 u) := (rd_below hb2 hz1 _ _).trans u1
  clear hb2 u1 G18 G19 G20
  go_wp2_with (fail)
  refine (zzHandover_few _ _ _ h2 _).mono ?_
  rintro e w3 ⟨rfl, hb3⟩
  have hB3 := hB2.trans (hb3.mono hB2.size)
  have hz3 : w.heap.size < w3.heap.size := by have := hb3.size; omega
  have u3 : rd w3 w.heap.size 0 20 = some (cs8 u) := (rd_below hb3 hz2 _ _).trans u2
  clear hb3 u2
  go_wp2_with (fail)
  refine (halvesRight_few _ _ _ _ _ h2 _).mono ?_
  rintro e w4 ⟨rfl, hb4⟩
  have hB4 : Below w.heap.size w w4 := ((hB3.alloc (by omega) _).alloc (by simp; omega) _).trans (hb4.mono (by simp; omega))
  have hz4 : w.heap.size < w4.heap.size := by have := hb4.size; simp at this; omega
  have u4 : rd w4 w.heap.size 0 20 = some (cs8 u) := by
    rw [rd_below hb4 (by simp; omega), rd_alloc_past _ _ _ _ _ (by simp; omega), rd_alloc_past _ _ _ _ _ hz3, u3]
  clear hb4 u3
  go_wp2_with (fail)
  refine (zzCopies_few _ _ _ h2 _).mono ?_
  rintro e w5 ⟨rfl, hb5⟩
  have hB5 := hB4.trans (hb5.mono hB4.size)
  have hz5 : w.heap.size < w5.heap.size := by have := hb5.size; omega
  have u5 : rd w5 w.heap.size 0 20 = some (cs8 u) := (rd_below hb5 hz4 _ _).trans u4
  clear hb5 u4
  go_wp2_with (fail)
  refine (halvesRight_few _ _ _ _ _ h2 _).mono ?_
  rintro e w6 ⟨rfl, hb6⟩
  have hB6 : Below w.heap.size w w6 := ((hB5.alloc (by omega) _).alloc (by simp; omega) _).trans (hb6.mono (by simp; omega))
  have hz6 : w.heap.size < w6.heap.size := by have := hb6.size; simp at this; omega
  have u6 : rd w6 w.heap.size 0 20 = some (cs8 u) := by
    rw [rd_below hb6 (by simp; omega), rd_alloc_past _ _ _ _ _ (by simp; omega), rd_alloc_past _ _ _ _ _ hz5, u5]
  clear hb6 u5
  go_wp2_with (fail)
  refine (zzRestore_few _ _ _ h2 _).mono ?_
  rintro e w7 ⟨rfl, hb7⟩
  have hB7 := hB6.trans (hb7.mono hB6.size)
  have hz7 : w.heap.size < w7.heap.size := by have := hb7.size; omega
  have u7 : rd w7 w.heap.size 0 20 = some (cs8 u) := (rd_below hb7 hz6 _ _).trans u6
  clear hb7 u6
  go_wp2_with (fail)
  refine (halvesRight_few _ _ _ _ _ h2 _).mono ?_
  rintro e w8 ⟨rfl, hb8⟩
  have hB8 : Below w.heap.size w w8 := ((hB7.alloc (by omega) _).alloc (by simp; omega) _).trans (hb8.mono (by simp; omega))
  have hz8 : w.heap.size < w8.heap.size := by have := hb8.size; simp at this; omega
  have u8 : rd w8 w.heap.size 0 20 = some (cs8 u) := by
    rw [rd_below hb8 (by simp; omega), rd_alloc_past _ _ _ _ _ (by simp; omega), rd_alloc_past _ _ _ _ _ hz7, u7]
  clear hb8 u7
  go_wp2_with (fail)
  refine (zzRenew_few _ _ _ u hu h2 _).mono ?_
  rintro e w9 ⟨rfl, hb9⟩
  have hB9 := hB8.trans (hb9.mono hB8.size)
  have hz9 : w.heap.size < w9.heap.size := by have := hb9.size; omega
  have u9 : rd w9 w.heap.size 0 20 = some (cs8 u) := (rd_below hb9 hz8 _ _).trans u8
  clear hb9 u8
  go_wp2_with (fail)
  refine (halvesRight_few _ _ _ _ _ h2 _).mono ?_
  rintro e w10 ⟨rfl, hb10⟩
  have hB10 : Below w.heap.size w w10 := ((hB9.alloc (by omega) _).alloc (by simp; omega) _).trans (hb10.mono (by simp; omega))
  have hz10 : w.heap.size < w10.heap.size := by have := hb10.size; simp at this; omega
  have u10 : rd w10 w.heap.size 0 20 = some (cs8 u) := by
    rw [rd_below hb10 (by simp; omega), rd_alloc_past _ _ _ _ _ (by simp; omega), rd_alloc_past _ _ _ _ _ hz9, u9]
  clear hb10 u9
  go_wp2
  go_ret
  exact ⟨rfl, hB10⟩
end Go.Proofs.Qxb6612300a
