/- The walk of the law FnSplitLeavingKeepsHeadHandsOverTail (8) where there is an item. -/
import Derived.Test.Qxb6612300aLaw8
namespace Go.Proofs.Qxb6612300a
open Go.RowKit
set_option linter.unusedVariables false

attribute [local go_sem ↓] ex_load25 ex_load31 ex_build31 ex_alloc31 ex_store31 ex_neq31 ex_build62 ex_alloc62 ex_store62 ex_load62
attribute [local go_sem] run_ld25 run_ld31 run_bld31 run_al31 run_st31 run_neq31_same run_ld62 run_bld62 run_al62 run_st62 run_st62u leav_rd0 leav_rd22 leav_succs leav_succs_at leav_items leav_items_at leavC_length peerC_length z20_length rd_alloc_past rd_alloc_row cs8_length


set_option maxRecDepth 100000 in
set_option maxHeartbeats 4000000 in
theorem law8_many (xs ys : List Int) (s t : ByteArray) (a : Option Addr) (len cap b' off' len' cap' : Nat) (K : Nat → List Int) (V : Nat → ByteArray) (N : Nat → Int) (hx : xs.length = 20) (hy : ys.length = 20) (hs : s.size ≤ maxLen) (ht : t.size ≤ maxLen) (hl : len ≤ maxLen) (hl' : len' ≤ maxLen) (h1 : 1 ≤ len')
    (hnil : a = none → len = 0 ∧ cap = 0) (w : World) (hP : SrcP w a len) (hI : ItemsAt w b' off' len' K V N) :
    Calls Try.prog 8 #[.agg (cs8 xs).toArray, .string s, .slice a len cap, .agg (cs8 ys).toArray, .string t, .slice (some ⟨b', off', none⟩) len' cap'] w fun e w' => e = .returned (.bool true) ∧ Below w.heap.size w w' := by
  have HP : Hid (SrcP w a len) := hP
  have HN : Hid (a = none → len = 0 ∧ cap = 0) := hnil
  have HIT : Hid (ItemsAt w b' off' len' K V N) := hI
  have hbl := hI.lt (by omega)
  have HI : Hid (SrcI w (some ⟨b', off', none⟩) len') := fun _ => ⟨b', off', K, V, N, rfl, hI⟩
  have ML : Hid (len ≤ maxLen) := hl
  have ML' : Hid (len' ≤ maxLen) := hl'
  have MS : Hid (s.size ≤ maxLen) := hs
  have MT : Hid (t.size ≤ maxLen) := ht
  clear hP hnil hI
  unfold maxLen at hl hl' hs ht
  go_enter Try.func8, Try.ntmps8
  go_wp2_with (fail)
  have hB0 : Below w.heap.size w ((w.alloc (.cells (cs8 xs).toArray 25)).alloc (.cells (cs8 ys).toArray 25)) := ((Below.refl _ _).alloc (Nat.le_refl _) _).alloc (by simp) _
  refine (zzBytes8_any _ _ s t a _ len cap len' cap' ML.out ML'.out MS.out MT.out _ (HP.out.below hB0) (HI.out.below hB0)).mono ?_
  rintro e w1 ⟨⟨b0, rfl⟩, hb1⟩
  have hB1 := hB0.trans (hb1.mono hB0.size)
  have z0 : w.heap.size < w1.heap.size := by have := hb1.size; simp at this; omega
  have z1 : w.heap.size + 1 < w1.heap.size := by have := hb1.size; simp at this; omega
  have x1 : rd w1 w.heap.size 0 20 = some (cs8 xs) := by
    rw [rd_below hb1 (by simp; omega), rd_alloc_past _ _ _ _ _ (by simp), rd_alloc_row _ _ _ _ _ rfl (by simp [cs8, hx])]
  have y1 : rd w1 (w.heap.size + 1) 0 20 = some (cs8 ys) := by
    rw [rd_below hb1 (by simp), rd_alloc_row _ _ _ _ _ (by simp) (by simp [cs8, hy])]
  clear hb1 hB0
  cases b0
  · go_wp2
    go_ret
    exact ⟨rfl, hB1⟩
  by_cases b1 : (65536 : Int) < s.size
  · go_wp2
    go_ret
    exact ⟨rfl, hB1⟩
  by_cases b2 : (65536 : Int) < t.size
  · go_wp2
    go_ret
    exact ⟨rfl, hB1⟩
  by_cases b3 : (32768 : Int) < len
  · go_wp2
    go_ret
    exact ⟨rfl, hB1⟩
  by_cases b5 : (32768 : Int) < len'
  · go_wp2
    go_ret
    exact ⟨rfl, hB1⟩
  have BL' : Hid (len' ≤ 32768) := by show len' ≤ 32768; omega
  have BL : Hid (len ≤ 32768) := by show len ≤ 32768; omega
  go_wp2_with (fail)
  refine (leavingBytes_any s t a _ len cap len' cap' ML.out ML'.out _ (HP.out.below hB1) (HI.out.below hB1)).mono ?_
  rintro e w1' ⟨⟨m, rfl⟩, rfl⟩
  by_cases b4 : (1048576 : Int) < m
  · go_wp2
    go_ret
    exact ⟨rfl, hB1⟩
  have z1' : w.heap.size + 1 < w1'.heap.size + 1 := by omega
  go_wp2_with (fail)
  have hB2 : Below w.heap.size w ((w1'.alloc (.cells (peerC xs s).toArray 31)).alloc (.cells (peerC ys t).toArray 31)) := (hB1.alloc (by omega) _).alloc (by simp; omega) _
  refine (toPeers_src a len cap BL.out HN.out _ (HP.out.below hB2)).mono ?_
  rintro e w3 ⟨v, rfl, hv, hb3⟩
  obtain ⟨av, nv, cv, rfl⟩ := hv.slice
  have hB3 := hB2.trans (hb3.mono hB2.size)
  have z3 : w1'.heap.size + 1 < w3.heap.size := by have := hb3.size; simp at this; omega
  have f3 : rd w3 w1'.heap.size 0 21 = some (peerC xs s) := by
    rw [rd_below hb3 (by simp; omega), rd_alloc_past _ _ _ _ _ (by simp), rd_alloc_row _ _ _ _ _ rfl (peerC_length _ _ hx)]
  have p3 : rd w3 (w1'.heap.size + 1) 0 21 = some (peerC ys t) := by
    rw [rd_below hb3 (by simp), rd_alloc_row _ _ _ _ _ (by simp) (peerC_length _ _ hy)]
  have O3 : Hid (OwnP w3 (.slice av nv cv) len) := hv
  clear hb3 hv hB2
  go_wp2_with (fail)
  refine (toItems_any b' off' len' cap' K V N BL'.out (by omega) _ (HIT.out.below hB3 hbl)).mono ?_
  rintro e w4 ⟨rfl, hb4, hg4, hI4⟩
  obtain ⟨g, Hg⟩ : ∃ g, Hid (g = w3.heap.size) := ⟨_, rfl⟩
  have hB4 := hB3.trans (hb4.mono hB3.size)
  have f4 : rd w4 w1'.heap.size 0 21 = some (peerC xs s) := (rd_below hb4 (by omega) _ _).trans f3
  have p4 : rd w4 (w1'.heap.size + 1) 0 21 = some (peerC ys t) := (rd_below hb4 (by omega) _ _).trans p3
  have z4 : w1'.heap.size + 1 < w4.heap.size := by have := hb4.size; omega
  have O4 : Hid (OwnP w4 (.slice av nv cv) len) := O3.out.below hb4
  rw [← Hg.out] at hg4 hI4 ⊢
  have I4 : Hid (ItemsAt w4 g 0 len' K V N) := hI4
  have G4 : Hid (g < w4.heap.size) := hg4
  clear hb4 f3 p3 hI4 hg4 HIT HI hbl O3
  obtain ⟨hf, rs, HS, HH, HZ⟩ : ∃ hf rs : Nat, Hid (hf + rs = len') ∧ Hid (rs = hf ∨ rs = hf + 1) ∧ Hid (∀ W, Calls Try.prog 29 #[.agg (leavC xs s (.slice av nv cv) ys t (.slice (some ⟨g, 0, none⟩) len' len')).toArray] W
      fun e w' => e = .returned (.tuple #[.bool false, .int .i64 2, .agg (leavC xs s (.slice av nv cv) ys t (.slice (some ⟨g, 0, none⟩) hf len')).toArray, .bool true, .agg #[.slice (some ⟨g, hf * 22, none⟩) rs rs], .bool true]) ∧ Below W.heap.size W w') :=
    ⟨len' / 2, len' - len' / 2, (by show len' / 2 + (len' - len' / 2) = len'; omega), (by show len' - len' / 2 = len' / 2 ∨ len' - len' / 2 = len' / 2 + 1; omega), fun W => zzLeaving g len' xs ys s t av nv cv hx hy BL'.out h1 W⟩
  go_wp2_with (fail)
  refine (HZ.out _).mono ?_
  rintro e w5 ⟨rfl, hb5⟩
  have hB5 := hB4.trans (hb5.mono hB4.size)
  have f5 : rd w5 w1'.heap.size 0 21 = some (peerC xs s) := (rd_below hb5 (by omega) _ _).trans f4
  have p5 : rd w5 (w1'.heap.size + 1) 0 21 = some (peerC ys t) := (rd_below hb5 (by omega) _ _).trans p4
  have z5 : w1'.heap.size + 1 < w5.heap.size := by have := hb5.size; omega
  have z5a : w1'.heap.size < w5.heap.size := by omega
  have z5b : w1'.heap.size < w5.heap.size + 1 := by omega
  have z5c : w1'.heap.size + 1 < w5.heap.size + 1 := by omega
  have O5 : Hid (OwnP w5 (.slice av nv cv) len) := O4.out.below hb5
  have I5 : Hid (ItemsAt w5 g 0 len' K V N) := I4.out.below hb5 G4.out
  have G5 : Hid (g < w5.heap.size) := by show g < w5.heap.size; have := hb5.size; have := G4.out; omega
  clear hb5 f4 p4 O4 I4 G4 HZ
  have l0 : ((len' : Int) == 0) = false := by simp; omega
  go_wp2_with (fail)
  have hA5 : Below w5.heap.size w5 ((w5.alloc (.cells (leavC xs s (.slice av nv cv) ys t (.slice (some ⟨g, 0, none⟩) hf len')).toArray 62)).alloc (.cells #[.slice (some ⟨g, hf * 22, none⟩) rs rs] 42)) :=
    ((Below.refl _ _).alloc (Nat.le_refl _) _).alloc (by simp) _
  refine (peersSame_any _ len ML.out _ (O5.out.below hA5)).mono ?_
  rintro e w6 ⟨rfl, hb6⟩
  have hC6 := hA5.trans (hb6.mono hA5.size)
  have hB6 := hB5.trans (hC6.mono hB5.size)
  have hL := (((leavAt_new w5 xs s (.slice av nv cv) ys t (.slice (some ⟨g, 0, none⟩) hf len') hx hy).below ((Below.refl _ _).alloc (Nat.le_refl _) (.cells #[.slice (some ⟨g, hf * 22, none⟩) rs rs] 42)) (by simp)).below hb6 (by simp; omega))
  have c43 := hL.items
  have cH : w6.cell? ⟨w5.heap.size + 1, 0, none⟩ = some (.slice (some ⟨g, hf * 22, none⟩) rs rs) := by
    rw [hb6.cell (by simp), World.cell?_alloc_at _ _ _ _ (by simp)]; rfl
  have I6 : Hid (ItemsAt w6 g 0 len' K V N) := I5.out.below hC6 G5.out
  have G6 : Hid (g < w6.heap.size) := by show g < w6.heap.size; have := hC6.size; have := G5.out; omega
  have z6 : w5.heap.size + 1 < w6.heap.size := by have := hb6.size; simp at this; omega
  clear hb6 hL O5 I5 hA5 f5 p5
  have e4 : (hf : Int) ≤ 32768 := by have := HS.out; have := BL'.out; omega
  have e5 : (rs : Int) ≤ 32768 := by have := HS.out; have := BL'.out; omega
  have e7 : ((hf : Int) + rs != len') = false := by have := HS.out; simp; omega
  have HI1 : Hid (∀ W, Below w6.heap.size w6 W → Calls Try.prog 31 #[.slice (some ⟨g, 0, none⟩) hf len', .slice (some ⟨g, 0, none⟩) len' len', .int .i64 0] W fun e w' => e = .returned (.bool true) ∧ Below W.heap.size W w') := fun W hW => by
    have := itemsAt_any g hf len' len' len' 0 K V N ML'.out (by have := HS.out; omega) W (I6.out.below hW G6.out)
    simpa using this
  have HI2 : Hid (∀ W, Below w6.heap.size w6 W → Calls Try.prog 31 #[.slice (some ⟨g, hf * 22, none⟩) rs rs, .slice (some ⟨g, 0, none⟩) len' len', .int .i64 hf] W fun e w' => e = .returned (.bool true) ∧ Below W.heap.size W w') := fun W hW =>
    itemsAt_any g rs rs len' len' hf K V N ML'.out (by have := HS.out; omega) W (I6.out.below hW G6.out)
  have f1 : (((rs : Int) != hf) = false) ∨ (((rs : Int) != hf) = true ∧ ((rs : Int) != hf + 1) = false) := by
    rcases HH.out with e | e
    · left; simp; omega
    · right; constructor
      · simp; omega
      · simp; omega
  rcases f1 with f1 | ⟨f1, f2⟩
  all_goals
    go_wp2_with (fail)
    refine (HI1.out _ (Below.refl _ _)).mono ?_
    rintro e w7 ⟨rfl, hb7⟩
    have c43' : w7.cell? ⟨w5.heap.size, 43, none⟩ = some (.slice (some ⟨g, 0, none⟩) hf len') := (hb7.cell (p := ⟨w5.heap.size, 43, none⟩) (by show w5.heap.size < w6.heap.size; omega)).trans c43
    have cH' : w7.cell? ⟨w5.heap.size + 1, 0, none⟩ = some (.slice (some ⟨g, hf * 22, none⟩) rs rs) := (hb7.cell (p := ⟨w5.heap.size + 1, 0, none⟩) z6).trans cH
    go_wp2_with (fail)
    refine (HI2.out _ hb7).mono ?_
    rintro e w8 ⟨rfl, hb8⟩
    go_wp2
    go_ret
    exact ⟨rfl, (hB6.trans (hb7.mono hB6.size)).trans (hb8.mono (by have := hB6.size; have := hb7.size; omega))⟩
end Go.Proofs.Qxb6612300a
