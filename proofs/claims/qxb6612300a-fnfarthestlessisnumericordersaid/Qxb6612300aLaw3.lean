/- The walk of the law FnFarthestLessIsNumericOrder (3). -/
import Derived.Test.Qxb6612300aFar
namespace Go.Proofs.Qxb6612300a
open Go.RowKit
set_option linter.unusedVariables false

theorem neq_nil22 (w : World) (a : Option Addr) (n c : Nat) : (binOp .neq 22 (.slice a n c) (.slice none 0 0)).run Try.prog w = .ok (.bool (!a.isNone)) w :=
  run_neq_slice_nil_any w 22 26 a n c 0 0 Try.underlying22

set_option maxHeartbeats 1000000 in
theorem law3_early (a : Option Addr) (len cap : Nat) (i j : Int) (hl : len ≤ maxLen) (h : ¬ (0 ≤ i ∧ i < len ∧ 0 ≤ j ∧ j < len)) (w : World) :
    Calls Try.prog 3 #[.slice a len cap, .int .i64 i, .int .i64 j] w fun e w' => e = .returned (.bool true) ∧ Below w.heap.size w w' := by
  have hl' := hl
  unfold maxLen at hl'
  go_enter Try.func3, Try.ntmps3
  go_wp2_with (go_at_call 9; refine (zzBytes9_any _ _ _ _ _ hl _).mono ?_)
  rintro e w1 ⟨⟨b0, rfl⟩, rfl⟩
  cases b0
  · go_wp2
    go_ret
    exact ⟨rfl, Below.refl _ _⟩
  by_cases hbig : (16384 : Int) < len
  · go_wp2
    go_ret
    exact ⟨rfl, Below.refl _ _⟩
  by_cases h1 : i < 0
  · go_wp2
    go_ret
    exact ⟨rfl, Below.refl _ _⟩
  by_cases h2 : (len : Int) ≤ i
  · go_wp2
    go_ret
    exact ⟨rfl, Below.refl _ _⟩
  by_cases h3 : j < 0
  · go_wp2
    go_ret
    exact ⟨rfl, Below.refl _ _⟩
  by_cases h4 : (len : Int) ≤ j
  · go_wp2
    go_ret
    exact ⟨rfl, Below.refl _ _⟩
  omega

attribute [local go_sem ↓] ex_load25
attribute [local go_sem] run_ld25

set_option maxRecDepth 100000 in
set_option maxHeartbeats 1000000 in
theorem law3_walk (b off len cap i j : Nat) (K B : Nat → List Int) (hK : ∀ k, k < len → (K k).length = 20) (hB : ∀ k, k < len → (B k).length = 20 ∧ Bytes (B k)) (hi : i < len) (hj : j < len) (hl : len ≤ maxLen) (w : World)
    (hr : ∀ k, k < len → rd w b (off + k * 40) 40 = some (cs8 (K k) ++ cs8 (B k))) :
    Calls Try.prog 3 #[.slice (some ⟨b, off, none⟩) len cap, .int .i64 i, .int .i64 j] w fun e w' => e = .returned (.bool true) ∧ Below w.heap.size w w' := by
  have hl' := hl
  unfold maxLen at hl'
  go_enter Try.func3, Try.ntmps3
  go_wp2_with (go_at_call 9; refine (zzBytes9_any _ _ _ _ _ hl _).mono ?_)
  rintro e w1 ⟨⟨b0, rfl⟩, rfl⟩
  cases b0
  · go_wp2
    go_ret
    exact ⟨rfl, Below.refl _ _⟩
  by_cases hbig : (16384 : Int) < len
  · go_wp2
    go_ret
    exact ⟨rfl, Below.refl _ _⟩
  have hbig' : len ≤ 16384 := by omega
  have hd : decide ((16384 : Int) < len) = false := by simpa using hbig
  have hb : b < w1.heap.size := rd_lt (hr i hi) (by omega)
  obtain ⟨C, hC, hmk⟩ := mk_rows 22 26 40 40 Try.underlying22 size26 (by kernel_rfl) (by kernel_rfl) len (by omega) hl
  have hE : ∀ k, k < len → (cs8 (K k) ++ cs8 (B k)).length = 40 := fun k hk => by simp [cs8, hK k hk, (hB k hk).1]
  have hfl := flat_length (fun k => cs8 (K k) ++ cs8 (B k)) 40 len hE
  have hth := there_new w1 C 26 (len * 40) (by omega)
  have hcp : (Builtin.copy_ #[22, 22] 3 #[.slice (some ⟨w1.heap.size, 0, none⟩) len len, .slice (some ⟨b, off, none⟩) len cap]).run Try.prog (w1.alloc (.cells C 26)) =
      .ok (goInt len) ((w1.alloc (.cells C 26)).setCells w1.heap.size 0 (flat (fun k => cs8 (K k) ++ cs8 (B k)) len)) :=
    run_copy_rows _ 22 22 3 26 _ 0 len b off len cap 40 _ Try.underlying22 size26 ((rd_alloc_past _ _ _ _ _ hb).trans (rd_flat hr)) hth (flat_mem fun k _ => one_two _ _)
  have hB2 : Below w1.heap.size w1 ((w1.alloc (.cells C 26)).setCells w1.heap.size 0 (flat (fun k => cs8 (K k) ++ cs8 (B k)) len)) := bel_setCells (Nat.le_refl _) _ _ _ ((Below.refl _ _).alloc (Nat.le_refl _) _)
  have hr2 := rd_of_flat hE (rd_setCells_same hth hfl)
  have hz2 : ((w1.alloc (.cells C 26)).setCells w1.heap.size 0 (flat (fun k => cs8 (K k) ++ cs8 (B k)) len)).heap.size = w1.heap.size + 1 := by rw [size_setCells]; simp
  generalize (w1.alloc (.cells C 26)).setCells w1.heap.size 0 (flat (fun k => cs8 (K k) ++ cs8 (B k)) len) = w2 at *
  have HBIG : Hid (len ≤ 16384) := hbig'
  have HR2 : Hid (∀ k, k < len → rd w2 w1.heap.size (0 + k * 40) 40 = some (cs8 (K k) ++ cs8 (B k))) := hr2
  have HZ2 : Hid (w2.heap.size = w1.heap.size + 1) := hz2
  clear hth hfl hr hbig' hr2 hE hz2
  have hn := neq_nil22
  have HP : Hid (∀ k, k < len → rd w2 w1.heap.size (0 + k * 40) 20 = some (cs8 (K k)) ∧ rd w2 w1.heap.size (0 + k * 40 + 20) 20 = some (cs8 (B k))) := fun k hk => by
    have h := HR2.out k hk
    have lk : (cs8 (K k)).length = 20 := by simp [cs8, hK k hk]
    have lb : (cs8 (B k)).length = 20 := by simp [cs8, (hB k hk).1]
    have h' : rd w2 w1.heap.size (0 + k * 40) ((cs8 (K k)).length + (cs8 (B k)).length) = some (cs8 (K k) ++ cs8 (B k)) := by rw [lk, lb]; exact h
    have := rd_split h'
    rwa [lk, lb] at this
  have H10 : Hid (Calls Try.prog 10 #[.slice (some ⟨w1.heap.size, 0, none⟩) len len, .int .i64 i, .int .i64 j] w2 fun e w' => e = .returned (.bool (lexLt (B i) (B j))) ∧ Below w2.heap.size w2 w') :=
    farLess_any w1.heap.size 0 len len i j K B hK hB hi hj HBIG.out w2 HP.out
  have H11 : Hid (∀ W, Calls Try.prog 11 #[.agg (cs8 (B i)).toArray, .agg (cs8 (B j)).toArray] W fun e w' => e = .returned (.bool (lexLt (B i) (B j))) ∧ Below W.heap.size W w') :=
    fun W => idBelow_any _ _ (hB i hi).1 (hB j hj).1 (hB i hi).2 (hB j hj).2 W
  have hBi := (hB i hi).1
  have hBj := (hB j hj).1
  have PI := (HP.out i hi).2
  have PJ := (HP.out j hj).2
  rw [Nat.zero_add] at PI PJ
  clear HP HR2 hK hB
  generalize lexLt (B i) (B j) = lb at *
  generalize B i = xi at *
  generalize B j = xj at *
  go_wp2_with (go_at_call 10; refine H10.out.mono ?_)
  rintro e w3 ⟨rfl, hb3⟩
  have hz3 : w1.heap.size < w3.heap.size := by have := hb3.size; have := HZ2.out; omega
  have hz2' : w1.heap.size < w2.heap.size := by have := HZ2.out; omega
  have p1 : ∀ z : Later w3, rd z.to w1.heap.size (i * 40 + 20) 20 = some (cs8 xi) := fun z => (z.rd _ _ _ hz3).trans ((rd_below hb3 hz2' _ _).trans PI)
  have p2 : ∀ z : Later w3, rd z.to w1.heap.size (j * 40 + 20) 20 = some (cs8 xj) := fun z => (z.rd _ _ _ hz3).trans ((rd_below hb3 hz2' _ _).trans PJ)
  have hne := later_ne w3
  clear hcp hmk PI PJ H10
  go_wp2
  refine wp_region_later (by kernel_rfl) (by kernel_rfl) ?_
  repeat (go_big_quiet_step (first | (go_at_call 11; exact later_of _ (H11.out _))))
  refine wpQuiet_nil ?_
  rintro _ ⟨z, rfl⟩
  go_wp2
  go_ret
  refine ⟨ret_bool ?_, hB2.trans ((hb3.mono hB2.size).trans (z.bel.mono (by omega)))⟩
  simp
end Go.Proofs.Qxb6612300a
