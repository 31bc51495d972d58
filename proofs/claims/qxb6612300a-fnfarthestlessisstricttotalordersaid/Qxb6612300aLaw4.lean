/- The walk of the law FnFarthestLessIsStrictTotalOrder (4). -/
import Derived.Test.Qxb6612300aLaw3
namespace Go.Proofs.Qxb6612300a
open Go.RowKit
set_option linter.unusedVariables false

set_option maxRecDepth 100000 in
set_option maxHeartbeats 1000000 in
theorem law4_empty (a : Option Addr) (cap : Nat) (i j k : Int) (w : World) :
    Calls Try.prog 4 #[.slice a 0 cap, .int .i64 i, .int .i64 j, .int .i64 k] w fun e w' => e = .returned (.bool true) ∧ Below w.heap.size w w' := by
  obtain ⟨C, hC, hmk⟩ := mk_rows 22 26 40 40 Try.underlying22 size26 (by kernel_rfl) (by kernel_rfl) 0 (by omega) (by unfold maxLen; omega)
  have hmk0 : ∀ W : World, (Instr.makeSlice 22 (.int .i64 0) (.int .i64 0)).run Try.prog W = .ok (.slice (some ⟨W.heap.size, 0, none⟩) 0 0) (W.alloc (.cells C 26)) := hmk
  clear hmk
  have hcp := fun w d => run_copy_zero (P := Try.prog) w 22 22 3 26 d a 0 cap 40 Try.underlying22 size26
  have hn := neq_nil22
  cases a with
  | none =>
    go_enter Try.func4, Try.ntmps4
    go_wp2_with (go_at_call 12; refine (zzBytes12_any _ _ _ _ _ _ (by unfold maxLen; omega) _).mono ?_)
    rintro e w1 ⟨⟨b0, rfl⟩, rfl⟩
    cases b0
    · go_wp2
      go_ret
      exact ⟨rfl, Below.refl _ _⟩
    · by_cases h1 : i < 0
      · go_wp2
        go_ret
        exact ⟨rfl, Below.refl _ _⟩
      · go_wp2
        go_ret
        exact ⟨rfl, Below.refl _ _⟩
  | some a =>
    go_enter Try.func4, Try.ntmps4
    go_wp2_with (go_at_call 12; refine (zzBytes12_any _ _ _ _ _ _ (by unfold maxLen; omega) _).mono ?_)
    rintro e w1 ⟨⟨b0, rfl⟩, rfl⟩
    cases b0
    · go_wp2
      go_ret
      exact ⟨rfl, Below.refl _ _⟩
    · by_cases h1 : i < 0
      · go_wp2
        go_ret
        exact ⟨rfl, (Below.refl _ _).alloc (Nat.le_refl _) _⟩
      · go_wp2
        go_ret
        exact ⟨rfl, (Below.refl _ _).alloc (Nat.le_refl _) _⟩

/-- what the four answers and the comparison may be, taken together -/
theorem four (xi xj xk : List Int) (h : xi.length = xj.length) :
    (lexLt xi xj = true ∧ lexLt xj xi = false ∧ (xi == xj) = false ∧ (lexLt xj xk = false ∨ lexLt xi xk = true)) ∨ (lexLt xi xj = false ∧ lexLt xj xi = true ∧ (xi == xj) = false) ∨ (lexLt xi xj = false ∧ lexLt xj xi = false ∧ (xi == xj) = true) := by
  rcases lexLt_tri xi xj h with ⟨a, b, c⟩ | h | h
  · left
    refine ⟨a, b, c, ?_⟩
    cases hk : lexLt xj xk
    · exact .inl rfl
    · exact .inr (lexLt_trans a hk)
  · exact .inr (.inl h)
  · exact .inr (.inr h)

attribute [local go_sem ↓] ex_load25
attribute [local go_sem] run_ld25

set_option maxRecDepth 100000 in
set_option maxHeartbeats 4000000 in
theorem law4_walk (b off len cap : Nat) (i j k : Int) (K B : Nat → List Int) (hK : ∀ k, k < len → (K k).length = 20) (hB : ∀ k, k < len → (B k).length = 20 ∧ Bytes (B k)) (h0 : 0 < len) (hl : len ≤ maxLen) (w : World)
    (hr : ∀ k, k < len → rd w b (off + k * 40) 40 = some (cs8 (K k) ++ cs8 (B k))) :
    Calls Try.prog 4 #[.slice (some ⟨b, off, none⟩) len cap, .int .i64 i, .int .i64 j, .int .i64 k] w fun e w' => e = .returned (.bool true) ∧ Below w.heap.size w w' := by
  have hl' := hl
  unfold maxLen at hl'
  go_enter Try.func4, Try.ntmps4
  go_wp2_with (go_at_call 12; refine (zzBytes12_any _ _ _ _ _ _ hl _).mono ?_)
  rintro e w1 ⟨⟨b0, rfl⟩, rfl⟩
  cases b0
  · go_wp2
    go_ret
    exact ⟨rfl, Below.refl _ _⟩
  by_cases hbig : (16384 : Int) < len
  · go_wp2
    go_ret
    exact ⟨rfl, Below.refl _ _⟩
  have hbig' : len ≤ 16384 := by omega
  have hd : decide ((16384 : Int) < len) = false := by simpa using hbig
  have hb : b < w1.heap.size := rd_lt (hr 0 h0) (by omega)
  obtain ⟨C, hC, hmk⟩ := mk_rows 22 26 40 40 Try.underlying22 size26 (by kernel_rfl) (by kernel_rfl) len (by omega) hl
  have hE : ∀ k, k < len → (cs8 (K k) ++ cs8 (B k)).length = 40 := fun k hk => by simp [cs8, hK k hk, (hB k hk).1]
  have hfl := flat_length (fun k => cs8 (K k) ++ cs8 (B k)) 40 len hE
  have hth := there_new w1 C 26 (len * 40) (by omega)
  have hcp : (Builtin.copy_ #[22, 22] 3 #[.slice (some ⟨w1.heap.size, 0, none⟩) len len, .slice (some ⟨b, off, none⟩) len cap]).run Try.prog (w1.alloc (.cells C 26)) =
      .ok (goInt len) ((w1.alloc (.cells C 26)).setCells w1.heap.size 0 (flat (fun k => cs8 (K k) ++ cs8 (B k)) len)) :=
    run_copy_rows _ 22 22 3 26 _ 0 len b off len cap 40 _ Try.underlying22 size26 ((rd_alloc_past _ _ _ _ _ hb).trans (rd_flat hr)) hth (flat_mem fun k _ => one_two _ _)
  have hB2 : Below w1.heap.size w1 ((w1.alloc (.cells C 26)).setCells w1.heap.size 0 (flat (fun k => cs8 (K k) ++ cs8 (B k)) len)) := bel_setCells (Nat.le_refl _) _ _ _ ((Below.refl _ _).alloc (Nat.le_refl _) _)
  have hr2 := rd_of_flat hE (rd_setCells_same hth hfl)
  have hz2 : ((w1.alloc (.cells C 26)).setCells w1.heap.size 0 (flat (fun k => cs8 (K k) ++ cs8 (B k)) len)).heap.size = w1.heap.size + 1 := by rw [size_setCells]; simp
  generalize (w1.alloc (.cells C 26)).setCells w1.heap.size 0 (flat (fun k => cs8 (K k) ++ cs8 (B k)) len) = w2 at *
  have HBIG : Hid (len ≤ 16384) := hbig'
  have HR2 : Hid (∀ k, k < len → rd w2 w1.heap.size (0 + k * 40) 40 = some (cs8 (K k) ++ cs8 (B k))) := hr2
  have HZ2 : Hid (w2.heap.size = w1.heap.size + 1) := hz2
  clear hth hfl hr hbig' hr2 hE hz2
  have hn := neq_nil22
  by_cases h1 : i < 0
  · go_wp2
    go_ret
    exact ⟨rfl, hB2⟩
  by_cases h2 : (len : Int) ≤ i
  · go_wp2
    go_ret
    exact ⟨rfl, hB2⟩
  by_cases h3 : j < 0
  · go_wp2
    go_ret
    exact ⟨rfl, hB2⟩
  by_cases h4 : (len : Int) ≤ j
  · go_wp2
    go_ret
    exact ⟨rfl, hB2⟩
  by_cases h5 : k < 0
  · go_wp2
    go_ret
    exact ⟨rfl, hB2⟩
  by_cases h6 : (len : Int) ≤ k
  · go_wp2
    go_ret
    exact ⟨rfl, hB2⟩
  obtain ⟨i, rfl⟩ := Int.eq_ofNat_of_zero_le (Int.not_lt.1 h1)
  obtain ⟨j, rfl⟩ := Int.eq_ofNat_of_zero_le (Int.not_lt.1 h3)
  obtain ⟨k, rfl⟩ := Int.eq_ofNat_of_zero_le (Int.not_lt.1 h5)
  have hi : i < len := by omega
  have hj : j < len := by omega
  have hk : k < len := by omega
  clear h1 h2 h3 h4 h5 h6
  have HP : Hid (∀ k, k < len → rd w2 w1.heap.size (0 + k * 40) 20 = some (cs8 (K k)) ∧ rd w2 w1.heap.size (0 + k * 40 + 20) 20 = some (cs8 (B k))) := fun k hk => by
    have h := HR2.out k hk
    have lk : (cs8 (K k)).length = 20 := by simp [cs8, hK k hk]
    have lb : (cs8 (B k)).length = 20 := by simp [cs8, (hB k hk).1]
    have h' : rd w2 w1.heap.size (0 + k * 40) ((cs8 (K k)).length + (cs8 (B k)).length) = some (cs8 (K k) ++ cs8 (B k)) := by rw [lk, lb]; exact h
    have := rd_split h'
    rwa [lk, lb] at this
  have hg : w1.heap.size < w2.heap.size := by have := HZ2.out; omega
  have H10 : Hid (∀ W, Below w2.heap.size w2 W → ∀ p q, p < len → q < len → Calls Try.prog 10 #[.slice (some ⟨w1.heap.size, 0, none⟩) len len, .int .i64 (p : Int), .int .i64 (q : Int)] W fun e w' => e = .returned (.bool (lexLt (B p) (B q))) ∧ Below W.heap.size W w') :=
    fun W hW p q hp hq => farLess_any w1.heap.size 0 len len p q K B hK hB hp hq HBIG.out W (fun k hk => ⟨(rd_below hW hg _ _).trans (HP.out k hk).1, (rd_below hW hg _ _).trans (HP.out k hk).2⟩)
  have H13 : Hid (∀ W, Calls Try.prog 13 #[.agg (cs8 (B i)).toArray, .agg (cs8 (B j)).toArray] W fun e w' => e = .returned (.bool (B i == B j)) ∧ Below W.heap.size W w') :=
    fun W => idSame_any _ _ (hB i hi).1 (hB j hj).1 W
  have hBi := (hB i hi).1
  have hBj := (hB j hj).1
  have PI := (HP.out i hi).2
  have PJ := (HP.out j hj).2
  have hfour := four (B i) (B j) (B k) (by omega)
  rw [Nat.zero_add] at PI PJ
  have Hij := fun W hW => H10.out W hW i j hi hj
  have Hji := fun W hW => H10.out W hW j i hj hi
  have Hjk := fun W hW => H10.out W hW j k hj hk
  have Hik := fun W hW => H10.out W hW i k hi hk
  clear HP HR2 hK hB H10
  generalize lexLt (B i) (B j) = bij at *
  generalize lexLt (B j) (B i) = bji at *
  generalize lexLt (B j) (B k) = bjk at *
  generalize lexLt (B i) (B k) = bik at *
  generalize (B i == B j) = bs at *
  generalize B i = xi at *
  generalize B j = xj at *
  have Gij : Hid (∀ W, Below w2.heap.size w2 W → Calls Try.prog 10 #[.slice (some ⟨w1.heap.size, 0, none⟩) len len, .int .i64 (i : Int), .int .i64 (j : Int)] W fun e w' => e = .returned (.bool bij) ∧ Below W.heap.size W w') := Hij
  have Gji : Hid (∀ W, Below w2.heap.size w2 W → Calls Try.prog 10 #[.slice (some ⟨w1.heap.size, 0, none⟩) len len, .int .i64 (j : Int), .int .i64 (i : Int)] W fun e w' => e = .returned (.bool bji) ∧ Below W.heap.size W w') := Hji
  have Gjk : Hid (∀ W, Below w2.heap.size w2 W → Calls Try.prog 10 #[.slice (some ⟨w1.heap.size, 0, none⟩) len len, .int .i64 (j : Int), .int .i64 (k : Int)] W fun e w' => e = .returned (.bool bjk) ∧ Below W.heap.size W w') := Hjk
  have Gik : Hid (∀ W, Below w2.heap.size w2 W → Calls Try.prog 10 #[.slice (some ⟨w1.heap.size, 0, none⟩) len len, .int .i64 (i : Int), .int .i64 (k : Int)] W fun e w' => e = .returned (.bool bik) ∧ Below W.heap.size W w') := Hik
  have HF : Hid ((bij = true ∧ bji = false ∧ bs = false ∧ (bjk = false ∨ bik = true)) ∨ (bij = false ∧ bji = true ∧ bs = false) ∨ (bij = false ∧ bji = false ∧ bs = true)) := hfour
  clear Hij Hji Hjk Hik hfour
  go_wp2_with (fail)
  refine (Gij.out _ (Below.refl _ _)).mono ?_
  rintro e w3 ⟨rfl, hb3⟩
  go_wp2_with (fail)
  refine (Gji.out _ hb3).mono ?_
  rintro e w4 ⟨rfl, hb4⟩
  have hc4 := hb3.trans (hb4.mono hb3.size)
  go_wp2_with (fail)
  refine (Gjk.out _ hc4).mono ?_
  rintro e w5 ⟨rfl, hb5⟩
  have hc5 := hc4.trans (hb5.mono hc4.size)
  go_wp2_with (fail)
  refine (Gik.out _ hc5).mono ?_
  rintro e w6 ⟨rfl, hb6⟩
  have hc6 := hc5.trans (hb6.mono hc5.size)
  have hz6 : w1.heap.size < w6.heap.size := by have := hc6.size; omega
  have p1 : ∀ z : Later w6, rd z.to w1.heap.size (i * 40 + 20) 20 = some (cs8 xi) := fun z => (z.rd _ _ _ hz6).trans ((rd_below hc6 hg _ _).trans PI)
  have p2 : ∀ z : Later w6, rd z.to w1.heap.size (j * 40 + 20) 20 = some (cs8 xj) := fun z => (z.rd _ _ _ hz6).trans ((rd_below hc6 hg _ _).trans PJ)
  have hne := later_ne w6
  have hB6 := hB2.trans (hc6.mono hB2.size)
  clear hcp hmk PI PJ Gij Gji Gjk Gik hb3 hb4 hb5 hb6 hc4 hc5
  rcases HF.out with ⟨rfl, rfl, rfl, hh⟩ | ⟨rfl, rfl, rfl⟩ | ⟨rfl, rfl, rfl⟩
  · rcases hh with rfl | rfl
    · go_wp2
      refine wp_region_later (by kernel_rfl) (by kernel_rfl) ?_
      repeat (go_big_quiet_step (first | (go_at_call 13; exact later_of _ (H13.out _))))
      refine wpQuiet_nil ?_
      rintro _ ⟨z, rfl⟩
      go_wp2
      go_ret
      exact ⟨rfl, hB6.trans (z.bel.mono hB6.size)⟩
    · cases bjk
      all_goals
        go_wp2
        refine wp_region_later (by kernel_rfl) (by kernel_rfl) ?_
        repeat (go_big_quiet_step (first | (go_at_call 13; exact later_of _ (H13.out _))))
        refine wpQuiet_nil ?_
        rintro _ ⟨z, rfl⟩
        go_wp2
        go_ret
        exact ⟨rfl, hB6.trans (z.bel.mono hB6.size)⟩
  all_goals
    go_wp2
    refine wp_region_later (by kernel_rfl) (by kernel_rfl) ?_
    repeat (go_big_quiet_step (first | (go_at_call 13; exact later_of _ (H13.out _))))
    refine wpQuiet_nil ?_
    rintro _ ⟨z, rfl⟩
    go_wp2
    go_ret
    exact ⟨rfl, hB6.trans (z.bel.mono hB6.size)⟩
end Go.Proofs.Qxb6612300a
