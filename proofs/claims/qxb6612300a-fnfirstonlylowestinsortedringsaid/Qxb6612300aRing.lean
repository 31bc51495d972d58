/- The walk of the law FnFirstOnlyLowestInSortedRing (6). -/
import Derived.Test.Qxb6612300aLaw5
namespace Go.Proofs.Qxb6612300a
open Go.RowKit
set_option linter.unusedVariables false

/-! ### plain -/
theorem lexLt_zero : ∀ (xs : List Int) (n : Nat), Bytes xs → xs.length = n → lexLt xs (List.replicate n 0) = false
  | [], 0, _, _ => rfl
  | [], n + 1, _, h => by simp at h
  | _ :: _, 0, _, h => by simp at h
  | x :: xs, n + 1, b, h => by
    have hx := b x (List.mem_cons_self ..)
    have ih := lexLt_zero xs n (fun y hy => b y (List.mem_cons_of_mem _ hy)) (by simpa using h)
    rw [List.replicate_succ, lexLt, ih]
    simp; omega

theorem sorted_lt {X : Nat → List Int} {n : Nat} (h : ∀ j, 1 ≤ j → j < n → lexLt (X (j - 1)) (X j) = true) : ∀ j, 1 ≤ j → j < n → lexLt (X 0) (X j) = true
  | 0, h1, _ => by omega
  | 1, _, h2 => h 1 (by omega) h2
  | j + 2, _, h2 => lexLt_trans (sorted_lt h (j + 1) (by omega) (by omega)) (h (j + 2) (by omega) h2)

theorem lexLt_asym {xs ys : List Int} (h : lexLt xs ys = true) : lexLt ys xs = false := by
  cases h2 : lexLt ys xs
  · rfl
  · have := lexLt_trans h h2
    rw [lexLt_irrefl] at this; cases this

theorem ring_zero {X : Nat → List Int} {n : Nat} (hn : 1 < n) (hX : ∀ i, i < n → (X i).length = 20 ∧ Bytes (X i)) (h : ∀ j, 1 ≤ j → j < n → lexLt (X (j - 1)) (X j) = true) : firstB (X 0) (X (n - 1)) .empty = true := by
  have h1 := sorted_lt h (n - 1) (by omega) (by omega)
  have h2 := lexLt_asym h1
  have h3 : (X (n - 1) == z20) = false := by
    rw [beq_eq_false_iff_ne]
    intro e
    rw [e] at h1
    have := lexLt_zero (X 0) 20 (hX 0 (by omega)).2 (hX 0 (by omega)).1
    rw [z20, this] at h1; cases h1
  simp [firstB, isZ, h2, h3]

theorem ring_later {X : Nat → List Int} {k : Nat} (h : lexLt (X (k - 1)) (X k) = true) : firstB (X k) (X (k - 1)) .empty = false := by
  simp [firstB, h]

theorem ring_one (x : List Int) : firstB x x .empty = !(x == z20) := by
  simp [firstB, isZ, lexLt_irrefl]

/-- it answered with a bool -/
def IsBool (e : Ending) : Prop := ∃ b, e = .returned (.bool b)
theorem isBool (b : Bool) : IsBool (.returned (.bool b)) := ⟨b, rfl⟩

set_option maxHeartbeats 400000 in
theorem zzBytes6_any (a : Option Addr) (len cap : Nat) (hl : len ≤ maxLen) (w : World) :
    Calls Try.prog 17 #[.slice a len cap] w fun e w' => IsBool e ∧ w' = w := by
  unfold maxLen at hl
  by_cases hbig : (1048576 : Int) < len
  · go_enter Try.func17, Try.ntmps17
    go_wp2
    go_ret
    first | exact ⟨isBool _, rfl⟩ | exact isBool _
  · go_enter Try.func17, Try.ntmps17
    go_wp2
    go_loop [3, 4] (fun z i => ∃ (k : Nat) (m : Int), k ≤ len ∧ 0 ≤ m ∧ m ≤ 1048576 ∧ i = .int .i64 k ∧ z = .int .i64 m) (fun _ i => len - (intOf i).toNat)
    case atStart => exact ⟨0, len, by omega, by omega, by omega, rfl, rfl⟩
    case round =>
      obtain ⟨k, m, hk, hm0, hm, rfl, rfl⟩ := hrel
      by_cases hlt : k < len
      · go_wp2
        · go_ret
          first | exact ⟨isBool _, rfl⟩ | exact isBool _
        · go_round
          case rel => exact ⟨k + 1, m + 20, by omega, by omega, by omega, by go_num, rfl⟩
          case measure => simp [intOf]; omega
      · go_wp2
        go_ret
        first | exact ⟨isBool _, rfl⟩ | exact isBool _

attribute [local go_sem ↓] ex_load25 ex_load29 ex_load31 ex_build31 ex_build100 ex_alloc31 ex_store31 ex_eql31 ex_neq31
attribute [local go_sem] run_ld25 run_ld29 run_ld31 run_al31 run_st31 run_bld31_0 run_bld31 run_bld31' run_eql31 run_neq31 rd_drew rd_drewN rd_alloc_past rd_alloc_row peerC_length z20_length cs8_length

set_option maxHeartbeats 400000 in
theorem law6_empty (a : Option Addr) (cap : Nat) (w : World) :
    Calls Try.prog 6 #[.slice a 0 cap] w fun e w' => e = .returned (.bool true) ∧ Below w.heap.size w w' := by
  go_enter Try.func6, Try.ntmps6
  go_wp2_with (go_at_call 17; refine (zzBytes6_any _ _ _ (by unfold maxLen; omega) _).mono ?_)
  rintro e w1 ⟨⟨b0, rfl⟩, rfl⟩
  cases b0
  · go_wp2
    go_ret
    exact ⟨rfl, Below.refl _ _⟩
  · go_wp2
    refine wp_loop_once ?_
    go_wp2
    refine wp_loop_once ?_
    go_wp2
    go_ret
    exact ⟨rfl, Below.refl _ _⟩

set_option maxRecDepth 20000 in
set_option maxHeartbeats 1000000 in
theorem law6_walk (b off len cap : Nat) (X : Nat → List Int) (hl : len ≤ maxLen) (h0 : 0 < len) (hX : ∀ i, i < len → (X i).length = 20 ∧ Bytes (X i)) (w : World)
    (hr : ∀ i, i < len → rd w b (off + i * 20) 20 = some (cs8 (X i))) :
    Calls Try.prog 6 #[.slice (some ⟨b, off, none⟩) len cap] w fun e w' => e = .returned (.bool true) ∧ Below w.heap.size w w' := by
  have hb : b < w.heap.size := rd_lt (hr 0 h0) (by omega)
  have hl' := hl
  unfold maxLen at hl'
  go_enter Try.func6, Try.ntmps6
  go_wp2_with (go_at_call 17; refine (zzBytes6_any _ _ _ hl _).mono ?_)
  rintro e w1 ⟨⟨b0, rfl⟩, rfl⟩
  cases b0
  · go_wp2
    go_ret
    exact ⟨rfl, Below.refl _ _⟩
  by_cases hbig : (32768 : Int) < len
  · go_wp2
    go_ret
    exact ⟨rfl, Below.refl _ _⟩
  have hd : decide ((32768 : Int) < len) = false := by simpa using hbig
  go_wp2
  go_loopw [3] (fun i wr => ∃ k : Nat, 1 ≤ k ∧ k ≤ len ∧ i = .int .i64 k ∧ Hid (∀ j, 1 ≤ j → j < k → lexLt (X (j - 1)) (X j) = true) ∧ Below w1.heap.size w1 wr) (fun i _ => len - (intOf i).toNat)
  case atStart => exact ⟨1, by omega, by omega, rfl, (fun j h1 h2 => by omega), Below.refl _ _⟩
  case round =>
    obtain ⟨k, hk1, hk, rfl, HS, hB⟩ := hrel
    rename_i wr
    by_cases hlt : k < len
    · obtain ⟨m, rfl⟩ : ∃ m, k = m + 1 := ⟨k - 1, by omega⟩
      have e1 : ∀ z : Later wr, rd z.to b (off + m * 20) 20 = some (cs8 (X m)) := fun z => by
        rw [z.rd _ _ _ (by have := hB.size; omega), rd_below hB hb]; exact hr m (by omega)
      have e2 : ∀ z : Later wr, rd z.to b (off + (m + 1) * 20) 20 = some (cs8 (X (m + 1))) := fun z => by
        rw [z.rd _ _ _ (by have := hB.size; omega), rd_below hB hb]; exact hr (m + 1) (by omega)
      have hc11 : ∀ z : Later wr, Calls Try.prog 11 #[.agg (cs8 (X m)).toArray, .agg (cs8 (X (m + 1))).toArray] z.to fun e w'' => e = .returned (.bool (lexLt (X m) (X (m + 1)))) ∧ ∃ z' : Later wr, w'' = z'.to :=
        fun z => later_of z (idBelow_any _ _ (hX m (by omega)).1 (hX (m + 1) (by omega)).1 (hX m (by omega)).2 (hX (m + 1) (by omega)).2 z.to)
      have HH : Hid (lexLt (X m) (X (m + 1)) = true → ∀ j, 1 ≤ j → j < m + 1 + 1 → lexLt (X (j - 1)) (X j) = true) := fun h j h1 h2 => by
        by_cases hj : j = m + 1
        · subst hj; exact h
        · exact HS.out j h1 (by omega)
      have hne := later_ne wr
      clear hr hX
      generalize lexLt (X m) (X (m + 1)) = lb at *
      generalize X m = xm at *
      generalize X (m + 1) = xm1 at *
      cases lb
      · go_wp2
        refine wp_region_later (by kernel_rfl) (by kernel_rfl) ?_
        repeat (go_big_quiet_step (first | (go_at_call 11; exact hc11 _)))
        refine wpQuiet_nil ?_
        rintro _ ⟨z, rfl⟩
        go_wp2
        go_ret
        exact ⟨rfl, hB.trans (z.bel.mono hB.size)⟩
      · go_wp2
        refine wp_region_later (by kernel_rfl) (by kernel_rfl) ?_
        repeat (go_big_quiet_step (first | (go_at_call 11; exact hc11 _)))
        refine wpQuiet_nil ?_
        rintro _ ⟨z, rfl⟩
        go_wp2
        exact ⟨⟨m + 1 + 1, by omega, by omega, by go_num, HH.out (by trivial), hB.trans (z.bel.mono hB.size)⟩, by simp [intOf]; omega⟩
    · obtain rfl : k = len := by omega
      have hB0 := hB
      go_wp2
      go_loopw [5] (fun i wq => ∃ j : Nat, j ≤ k ∧ i = .int .i64 j ∧ Below w1.heap.size w1 wq) (fun i _ => k - (intOf i).toNat)
      case atStart => exact ⟨0, by omega, rfl, hB⟩
      case round =>
        clear hB hB0
        obtain ⟨j, hj, rfl, hB⟩ := hrel
        obtain ⟨wq, hwq, hB⟩ : ∃ wq, wq = _ ∧ Below w1.heap.size w1 wq := ⟨_, rfl, hB⟩
        subst hwq
        have hbq : b < wq.heap.size := by have := hB.size; omega
        by_cases hlt : j < k
        · have hrj : ∀ i, i < k → rd wq b (off + i * 20) 20 = some (cs8 (X i)) := fun i hi => by rw [rd_below hB hb]; exact hr i hi
          cases j with
          | zero =>
            obtain ⟨q, HQ, hkq⟩ : ∃ q : Nat, Hid (k = q + 1) ∧ (k : Int) - 1 = (q : Int) := ⟨k - 1, (by show k = k - 1 + 1; omega), by omega⟩
            have hqk : (q : Int) < k := by omega
            have hq0 : (0 : Int) ≤ q := by omega
            have e0 := hrj 0 (by omega)
            have e1 := hrj q (by omega)
            have l0 := (hX 0 (by omega)).1
            have l1 := (hX q (by omega)).1
            have H15 : Hid (∀ W, Calls Try.prog 15 #[.agg (peerC (X 0) .empty).toArray, .agg (peerC (X q) .empty).toArray] W fun e w' => e = .returned (.bool (firstB (X 0) (X q) .empty)) ∧ Below W.heap.size W w') := fun W =>
              nodeFirst_any (X 0) (X q) .empty .empty l0 l1 (hX 0 (by omega)).2 (hX q (by omega)).2 W
            rw [Nat.zero_mul, Nat.add_zero] at e0
            by_cases hq : q = 0
            · have hn1 : decide ((1 : Int) < k) = false := by rw [decide_eq_false_iff_not]; omega
              have H16 : Hid (∀ W, Calls Try.prog 16 #[.agg (cs8 (X 0)).toArray] W fun e w' => e = .returned (.bool (X 0 == z20)) ∧ Below W.heap.size W w') := fun W => idZ_any (X 0) l0 W
              have HF' : Hid (firstB (X 0) (X q) .empty = !(X 0 == z20)) := by
                show firstB (X 0) (X q) .empty = !(X 0 == z20)
                rw [hq]; exact ring_one (X 0)
              clear hq hrj hr hX HS
              generalize firstB (X 0) (X q) .empty = fb at *
              generalize (X 0 == z20) = zb at *
              generalize X 0 = x0 at *
              generalize X q = xq at *
              go_wp2_with (go_at_call 15; refine (H15.out _).mono ?_)
              rintro e w3 ⟨rfl, hb3⟩
              have hB3 : Below w1.heap.size w1 w3 := ((hB.alloc (by have := hB.size; omega) _).alloc (by have := hB.size; simp; omega) _).trans (hb3.mono (by have := hB.size; simp; omega))
              have e3 : rd w3 b off 20 = some (cs8 x0) := by
                rw [rd_below hb3 (by simp; omega), rd_alloc_past _ _ _ _ _ (by simp; omega), rd_alloc_past _ _ _ _ _ (by omega), e0]
              clear e0 hb3
              go_wp2_with (go_at_call 16; refine (H16.out _).mono ?_)
              rintro e w4 ⟨rfl, hb4⟩
              have hb4' := hB3.trans (hb4.mono hB3.size)
              have hfb := HF'.out
              subst hfb
              cases zb
              · go_wp2
                exact ⟨⟨1, by omega, by go_num, hb4'⟩, by simp [intOf]; omega⟩
              · go_wp2
                exact ⟨⟨1, by omega, by go_num, hb4'⟩, by simp [intOf]; omega⟩
            · have hn1 : decide ((1 : Int) < k) = true := by rw [decide_eq_true_iff]; omega
              have HF := ring_zero (X := X) (n := k) (by omega) hX HS.out
              rw [show k - 1 = q from by have := HQ.out; omega] at HF
              rw [HF] at H15
              clear HF hrj hr hX HS hq
              generalize X 0 = x0 at *
              generalize X q = x1 at *
              go_wp2_with (go_at_call 15; refine (H15.out _).mono ?_)
              rintro e w3 ⟨rfl, hb3⟩
              have hB3 : Below w1.heap.size w1 w3 := ((hB.alloc (by have := hB.size; omega) _).alloc (by have := hB.size; simp; omega) _).trans (hb3.mono (by have := hB.size; simp; omega))
              go_wp2
              exact ⟨⟨1, by omega, by go_num, hB3⟩, by simp [intOf]; omega⟩
          | succ m =>
            have e1 := hrj m (by omega)
            have e2 := hrj (m + 1) (by omega)
            have HL := ring_later (HS.out (m + 1) (by omega) (by omega))
            have l1 := (hX m (by omega)).1
            have l2 := (hX (m + 1) (by omega)).1
            have H15 : Hid (∀ W, Calls Try.prog 15 #[.agg (peerC (X (m + 1)) .empty).toArray, .agg (peerC (X m) .empty).toArray] W fun e w' => e = .returned (.bool false) ∧ Below W.heap.size W w') := fun W => by
              have := nodeFirst_any (X (m + 1)) (X m) .empty .empty l2 l1 (hX (m + 1) (by omega)).2 (hX m (by omega)).2 W
              rwa [show firstB (X (m + 1)) (X m) .empty = false from HL] at this
            clear HL hrj hr hX
            generalize X m = xm at *
            generalize X (m + 1) = xm1 at *
            go_wp2_with (go_at_call 15; refine (H15.out _).mono ?_)
            rintro e w3 ⟨rfl, hb3⟩
            go_wp2
            exact ⟨⟨m + 1 + 1, by omega, by go_num, ((hB.alloc (by have := hB.size; omega) _).alloc (by have := hB.size; simp; omega) _).trans (hb3.mono (by have := hB.size; simp; omega))⟩, by simp [intOf]; omega⟩
        · clear hr hX
          go_wp2
          go_ret
          exact ⟨rfl, hB⟩
end Go.Proofs.Qxb6612300a
