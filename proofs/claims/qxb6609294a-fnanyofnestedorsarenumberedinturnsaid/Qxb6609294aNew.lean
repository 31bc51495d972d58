/- queue.add 9, NewVar 6. -/
import Derived.Test.Qxb6609294aPush
namespace Go.Proofs.Qxb6609294a
open Go.RowKit
set_option linter.unusedVariables false

theorem Try.infoE10 : (Try.prog.info? (E 10)).map (fun i => (i.zero, i.size, i.bytes)) = some (some (.float .f64 0), 1, 8) := by kernel_rfl
theorem Try.infoE2 : (Try.prog.info? (E 2)).map (fun i => (i.zero, i.size, i.bytes)) = some (some (.int .i8 0), 1, 1) := by kernel_rfl
theorem Try.infoE3 : (Try.prog.info? (E 3)).map (fun i => (i.zero, i.size, i.bytes)) = some (some (.int .i64 0), 1, 8) := by kernel_rfl
theorem Try.infoE4 : (Try.prog.info? (E 4)).map (fun i => (i.zero, i.size, i.bytes)) = some (some (.int .i64 0), 1, 8) := by kernel_rfl
theorem Try.infoE12 : (Try.prog.info? (E 12)).map (fun i => (i.zero, i.size, i.bytes)) = some (some (.bool false), 1, 1) := by kernel_rfl
theorem Try.infoE1 : (Try.prog.info? (E 1)).map (fun i => (i.zero, i.size, i.bytes)) = some (some nilS, 1, 24) := by kernel_rfl

section
variable {w : World} {p : Nat} {V : Nat → Value} {X : Nat → List Value} {h : Int} {f : Bool}

set_option maxHeartbeats 1000000 in
set_option maxRecDepth 100000 in
theorem add_ok (S : Sol w p V X h f) (n : Nat) (x8 : X 8 = heapL n) (x10 : X 10 = zeroL n) (l9 : (X 9).length = n) (hn : n ≤ 90000) :
    Calls Try.prog 9 #[.pointer (some ⟨p, 8, none⟩), .int .i32 n] w fun e w' => e = .returned (.tuple #[]) ∧
      ∃ V' X', Sol w' p V' X' h f ∧ Fr p V w V' w' ∧ X' 8 = heapL (n + 1) ∧ X' 10 = zeroL (n + 1) ∧ (X' 9).length = n + 1 ∧ ∀ k, k ≠ 8 → k ≠ 9 → k ≠ 10 → X' k = X k := by
  obtain ⟨a9, c9, hV9⟩ := S.form 9
  rw [l9] at hV9
  have l10 : (X 10).length = n := by rw [x10, zeroL_len]
  obtain ⟨a10, c10, hV10⟩ := S.form 10
  rw [l10] at hV10
  have k9 : w.cell? ⟨p, 9, none⟩ = some (.slice a9 n c9) := by rw [← hV9]; exact S.cell 9
  have HS : Hid (Sol w p V X h f) := S
  clear S
  go_enter Try.func9, Try.ntmps9
  go_wp2_with (at_builtin; refine wpList_push (HS.out.below ((Below.refl _ _).alloc (Nat.le_refl _) (.cells #[.int .i64 (-1)] 3))) 9 n rfl l9 rfl (.tmp 8) (.tmp 9) 28 rfl Try.underlying28 Try.info3 rfl (by decide) [.int .i64 (-1)] 1 rfl (by decide) (by omega) ?one (fun h => absurd h (by decide)) _ hV9 rfl w.heap.size 1 rfl 3 (0, 0) ?hB ?k)
  case one => intro u hu; simp at hu; subst hu; rfl
  case hB => exact heap_alloc_at _ _ _ (by simp)
  case k =>
    intro g9 c9' w2 hc hf S3 F3
    have k9' : w2.cell? ⟨p, 9, none⟩ = some (.slice a9 n c9) := by rw [← hV9]; exact hc 9
    have k10' : w2.cell? ⟨p, 10, none⟩ = some (.slice a10 n c10) := by rw [← hV10]; exact hc 10
    have f9' := hf 9
    clear hc hf
    have HS3 : Hid _ := S3
    have HF3 : Hid _ := (Fr.of_below (p := p) (V := V) ((Below.refl w.heap.size w).alloc (Nat.le_refl _) (.cells #[.int .i64 (-1)] 3))).trans F3
    clear S3 F3 k9
    have hV10' : upd V 9 (.slice (some ⟨g9, 0, none⟩) (n + 1) c9') 10 = .slice a10 n c10 := by rw [upd_ne _ _ (by decide), hV10]
    have l10' : (upd X 9 (X 9 ++ [.int .i64 (-1)]) 10).length = n := by rw [upd_ne _ _ (by decide), l10]
    go_wp2_with (at_builtin; refine wpList_push (HS3.out.below ((Below.refl _ _).alloc (Nat.le_refl _) (.cells #[.float .f64 0] 34))) 10 n rfl l10' rfl (.tmp 17) (.tmp 18) 31 rfl Try.underlying31 Try.infoE10 rfl (by decide) [.float .f64 0] 1 rfl (by decide) (by omega) ?one (fun h => absurd h (by decide)) _ hV10' rfl w2.heap.size 1 rfl 34 (0, 0) ?hB ?k)
    case one => intro u hu; simp at hu; subst hu; rfl
    case hB => exact heap_alloc_at _ _ _ (by simp [World.setCell])
    case k =>
      intro g10 c10' w4 hc hf S5 F5
      have k10'' : w4.cell? ⟨p, 10, none⟩ = some (.slice a10 n c10) := by rw [← hV10']; exact hc 10
      have f10' := hf 10
      clear hc hf
      have HF5 : Hid _ := (HF3.out.trans (Fr.of_below ((Below.refl _ _).alloc (Nat.le_refl _) _))).trans F5
      have HJ : Hid _ := push_ok S5 n (by rw [upd_ne _ _ (by decide), upd_ne _ _ (by decide), x8]) (by rw [upd_same, upd_ne _ _ (by decide), x10, zeroL_succ]) (by rw [upd_ne _ _ (by decide), upd_same]; simp [l9]) (by rw [upd_ne _ _ (by decide), upd_same, List.getElem?_append_right (by omega), l9]; simp) (by omega)
      clear S5 F5
      go_wp2_with (go_at_call 11; refine Calls.mono HJ.out ?_; rintro e w3 ⟨rfl, V', X', hS, hF, h1, h2, h3⟩)
      have HF' : Hid _ := hF
      have HH : Hid _ := hS
      have H3 : Hid _ := h3
      clear hF hS h3 HJ
      go_wp2
      go_end0
      refine ⟨rfl, V', X', HH.out, HF5.out.trans HF'.out, h1, ?_, h2, ?_⟩
      · rw [H3.out 10 (by decide) (by decide), upd_same, upd_ne _ _ (by decide), x10, zeroL_succ]
      · intro k a b c; rw [H3.out k a b, upd_ne _ _ c, upd_ne _ _ b]
/-- the rows' lengths; the heap in order, every activity zero -/
structure Gd (X : Nat → List Value) (n : Nat) : Prop where
  l1 : (X 1).length = 2 * n
  l2 : (X 2).length = n
  l3 : (X 3).length = n
  l4 : (X 4).length = n
  x8 : X 8 = heapL n
  l9 : (X 9).length = n
  x10 : X 10 = zeroL n
  l12 : (X 12).length = n

set_option maxHeartbeats 2000000 in
set_option maxRecDepth 100000 in
theorem newVar_ok (S : Sol w p V X h f) (n : Nat) (G : Gd X n) (hn : n ≤ 90000) :
    Calls Try.prog 6 #[.pointer (some ⟨p, 0, none⟩)] w fun e w' => e = .returned (.int .i32 n) ∧
      ∃ V' X', Sol w' p V' X' h f ∧ Fr p V w V' w' ∧ Gd X' (n + 1) ∧ X' 2 = X 2 ++ [.int .i8 0] ∧ X' 1 = X 1 ++ [nilS, nilS] ∧ X' 5 = X 5 ∧ X' 0 = X 0 ∧ X' 6 = X 6 ∧ ∀ i, X' (16 + i) = X (16 + i) := by
  obtain ⟨l1, l2, l3, l4, x8, l9, x10, l12⟩ := G
  obtain ⟨a2, c2, hV2⟩ := S.form 2
  rw [l2] at hV2
  obtain ⟨a3, c3, hV3⟩ := S.form 3
  rw [l3] at hV3
  obtain ⟨a4, c4, hV4⟩ := S.form 4
  rw [l4] at hV4
  have k2 : w.cell? ⟨p, 2, none⟩ = some (.slice a2 n c2) := by rw [← hV2]; exact S.cell 2
  have HS : Hid (Sol w p V X h f) := S
  clear S
  go_enter Try.func6, Try.ntmps6
  go_wp2_with (at_builtin; refine wpList_push (HS.out.below ((Below.refl _ _).alloc (Nat.le_refl _) (.cells #[.int .i8 0] 44))) 2 n rfl l2 rfl (.tmp 14) (.tmp 15) 27 rfl Try.underlying27 Try.infoE2 rfl (by decide) [.int .i8 0] 1 rfl (by decide) (by omega) ?one (fun h => absurd h (by decide)) _ hV2 rfl w.heap.size 1 rfl 44 (0, 0) ?hB ?k)
  case one => intro u hu; simp at hu; subst hu; rfl
  case hB => exact heap_alloc_at _ _ _ (by simp)
  case k =>
  intro g2 c2' w2 hc hf S2 F2
  have k2' : w2.cell? ⟨p, 2, none⟩ = some (.slice a2 n c2) := by rw [← hV2]; exact hc 2
  have k3' : w2.cell? ⟨p, 3, none⟩ = some (.slice a3 n c3) := by rw [← hV3]; exact hc 3
  have f2' := hf 2
  clear hc hf k2
  have HS2 : Hid _ := S2
  have HF2 : Hid _ := (Fr.of_below (p := p) (V := V) ((Below.refl w.heap.size w).alloc (Nat.le_refl _) (.cells #[.int .i8 0] 44))).trans F2
  clear S2 F2
  have hV3' : upd V 2 (.slice (some ⟨g2, 0, none⟩) (n + 1) c2') 3 = .slice a3 n c3 := by rw [upd_ne _ _ (by decide), hV3]
  have l3' : (upd X 2 (X 2 ++ [.int .i8 0]) 3).length = n := by rw [upd_ne _ _ (by decide), l3]
  go_wp2_with (at_builtin; refine wpList_push (HS2.out.below ((Below.refl _ _).alloc (Nat.le_refl _) (.cells #[.int .i64 0] 3))) 3 n rfl l3' rfl (.tmp 23) (.tmp 24) 28 rfl Try.underlying28 Try.infoE3 rfl (by decide) [.int .i64 0] 1 rfl (by decide) (by omega) ?one (fun h => absurd h (by decide)) _ hV3' rfl w2.heap.size 1 rfl 3 (0, 0) ?hB ?k)
  case one => intro u hu; simp at hu; subst hu; rfl
  case hB => exact heap_alloc_at _ _ _ (by simp [World.setCell])
  case k =>
  intro g3 c3' w3 hc hf S3 F3
  have k3t : w3.cell? ⟨p, 3, none⟩ = some (.slice a3 n c3) := by rw [← hV3']; exact hc 3
  have hV4' : upd V 2 (.slice (some ⟨g2, 0, none⟩) (n + 1) c2') 4 = .slice a4 n c4 := by rw [upd_ne _ _ (by decide), hV4]
  have k4t : w3.cell? ⟨p, 4, none⟩ = some (.slice a4 n c4) := by rw [← hV4']; exact hc 4
  have f3' := hf 3
  clear hc hf
  have HS3 : Hid _ := S3
  have HF3 : Hid _ := (HF2.out.trans (Fr.of_below ((Below.refl _ _).alloc (Nat.le_refl _) _))).trans F3
  clear S3 F3
  have hV4t : upd (upd V 2 (.slice (some ⟨g2, 0, none⟩) (n + 1) c2')) 3 (.slice (some ⟨g3, 0, none⟩) (n + 1) c3') 4 = .slice a4 n c4 := by rw [upd_ne _ _ (by decide), hV4']
  have l4t : (upd (upd X 2 (X 2 ++ [.int .i8 0])) 3 (upd X 2 (X 2 ++ [.int .i8 0]) 3 ++ [.int .i64 0]) 4).length = n := by rw [upd_ne _ _ (by decide), upd_ne _ _ (by decide), l4]
  go_wp2_with (at_builtin; refine wpList_push (HS3.out.below ((Below.refl _ _).alloc (Nat.le_refl _) (.cells #[.int .i64 (-1)] 3))) 4 n rfl l4t rfl (.tmp 32) (.tmp 33) 28 rfl Try.underlying28 Try.infoE4 rfl (by decide) [.int .i64 (-1)] 1 rfl (by decide) (by omega) ?one (fun h => absurd h (by decide)) _ hV4t rfl w3.heap.size 1 rfl 3 (0, 0) ?hB ?k)
  case one => intro u hu; simp at hu; subst hu; rfl
  case hB => exact heap_alloc_at _ _ _ (by simp [World.setCell])
  case k =>
  intro g4 c4' w4 hc hf S4 F4
  have k4u : w4.cell? ⟨p, 4, none⟩ = some (.slice a4 n c4) := by rw [← hV4t]; exact hc 4
  have f4' := hf 4
  clear hc hf
  have HF4 : Hid _ := (HF3.out.trans (Fr.of_below ((Below.refl _ _).alloc (Nat.le_refl _) _))).trans F4
  have HJ : Hid _ := add_ok S4 n (by simp [upd, x8]) (by simp [upd, x10]) (by simp [upd, l9]) hn
  clear S4 F4
  go_wp2_with (go_at_call 9; refine Calls.mono HJ.out ?_; rintro e w5 ⟨rfl, V5, X5, S5, F5, y8, y10, y9, yk⟩; refine Hid.out ?_)
  have HF5 : Hid _ := HF4.out.trans F5
  have l12 : (X5 12).length = n := by rw [yk 12 (by decide) (by decide) (by decide)]; simp [upd, l12]
  have l1 : (X5 1).length = 2 * n := by rw [yk 1 (by decide) (by decide) (by decide)]; simp [upd, l1]
  obtain ⟨a12, c12, hV12⟩ := S5.form 12
  rw [l12] at hV12
  obtain ⟨a1, c1, hV1⟩ := S5.form 1
  rw [l1] at hV1
  have k12 : w5.cell? ⟨p, 12, none⟩ = some (.slice a12 n c12) := by rw [← hV12]; exact S5.cell 12
  have HS5 : Hid _ := S5
  have HY8 : Hid _ := y8
  have HY10 : Hid _ := y10
  have HY9 : Hid _ := y9
  have HYK : Hid _ := yk
  clear S5 F5 HJ y8 y10 y9 yk k4u f4' k3t k4t f3' k2' k3' f2'
  unfold Hid
  go_wp2_with (at_builtin; (refine wpList_push (HS5.out.below ((Below.refl _ _).alloc (Nat.le_refl _) (.cells #[.bool false] 4))) 12 n rfl l12 rfl (.tmp 46) (.tmp 47) 35 rfl Try.underlying35 Try.infoE12 rfl (by decide) [.bool false] 1 rfl (by decide) (by omega) ?one (fun h => absurd h (by decide)) _ hV12 rfl w5.heap.size 1 rfl 4 (0, 0) ?hB ?k))
  case one => intro u hu; simp at hu; subst hu; rfl
  case hB => exact heap_alloc_at _ _ _ (by simp)
  case k =>
  intro g12 c12' w6 hc hf S6 F6
  have k12' : w6.cell? ⟨p, 12, none⟩ = some (.slice a12 n c12) := by rw [← hV12]; exact hc 12
  have k1' : w6.cell? ⟨p, 1, none⟩ = some (.slice a1 (2 * n) c1) := by rw [← hV1]; exact hc 1
  have f12' := hf 12
  clear hc hf k12
  have HS6 : Hid _ := S6
  have HF6 : Hid _ := (HF5.out.trans (Fr.of_below ((Below.refl _ _).alloc (Nat.le_refl _) _))).trans F6
  clear S6 F6
  have hV1' : upd V5 12 (.slice (some ⟨g12, 0, none⟩) (n + 1) c12') 1 = .slice a1 (2 * n) c1 := by rw [upd_ne _ _ (by decide), hV1]
  have l1' : (upd X5 12 (X5 12 ++ [.bool false]) 1).length = 2 * n := by rw [upd_ne _ _ (by decide), l1]
  go_wp2_with (at_builtin; refine wpList_push (HS6.out.below ((Below.refl _ _).alloc (Nat.le_refl _) (.cells #[nilS, nilS] 28))) 1 (2 * n) rfl l1' rfl (.tmp 55) (.tmp 56) 26 rfl Try.underlying26 Try.infoE1 rfl (by decide) [nilS, nilS] 2 rfl (by decide) (by omega) ?one ?nl _ hV1' rfl w6.heap.size 2 rfl 28 (0, 0) ?hB ?k)
  case one => intro u hu; simp at hu; subst hu; rfl
  case hB => exact heap_alloc_at _ _ _ (by simp [World.setCell])
  case k =>
  intro g1 c1' w7 hc hf S7 F7
  have k1t : w7.cell? ⟨p, 1, none⟩ = some (.slice a1 (2 * n) c1) := by rw [← hV1']; exact hc 1
  have f1' := hf 1
  clear hc hf
  have HF7 : Hid _ := (HF6.out.trans (Fr.of_below ((Below.refl _ _).alloc (Nat.le_refl _) _))).trans F7
  have HS7 : Hid _ := S7
  clear S7 F7
  go_wp2
  go_ret
  refine ⟨rfl, _, _, HS7.out, HF7.out, ⟨?_, ?_, ?_, ?_, ?_, ?_, ?_, ?_⟩, ?_, ?_, ?_, ?_, ?_, ?_⟩
  · simp [upd, l1]; omega
  · simp [upd, HYK.out 2, l2]
  · simp [upd, HYK.out 3, l3]
  · simp [upd, HYK.out 4, l4]
  · simp [upd, HY8.out]
  · simp [upd, HY9.out]
  · simp [upd, HY10.out]
  · simp [upd, l12]
  · simp [upd, HYK.out 2]
  · simp [upd, HYK.out 1]
  · simp [upd, HYK.out 5]
  · simp [upd, HYK.out 0]
  · simp [upd, HYK.out 6]
  · intro i; rw [upd_ne _ _ (by omega), upd_ne _ _ (by omega), HYK.out _ (by omega) (by omega) (by omega), upd_ne _ _ (by omega), upd_ne _ _ (by omega), upd_ne _ _ (by omega)]
end
end Go.Proofs.Qxb6609294a
