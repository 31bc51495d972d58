/- assign 17, of a literal that is odd. -/
import Derived.Test.Qxb6609294aAtt
namespace Go.Proofs.Qxb6609294a
open Go.RowKit
set_option linter.unusedVariables false

theorem Try.infoE5 : (Try.prog.info? (E 5)).map (fun i => (i.zero, i.size, i.bytes)) = some (some (.int .i32 0), 1, 4) := by kernel_rfl

section
variable {w : World} {p : Nat} {V : Nat → Value} {X : Nat → List Value} {h : Int} {f : Bool}

set_option maxHeartbeats 2000000 in
set_option maxRecDepth 100000 in
theorem assign_ok (S : Sol w p V X h f) (n v l : Nat) (n5 : Nat) (G : Gd X n) (hv : v < n) (hl : l = 2 * v + 1) (hn : n ≤ 100000) (h6 : X 6 = []) (h5 : (X 5).length = n5) (hn5 : n5 ≤ 100000) :
    Calls Try.prog 17 #[.pointer (some ⟨p, 0, none⟩), .int .i32 l, .int .i64 (-1)] w fun e w' => e = .returned (.tuple #[]) ∧
      ∃ V' X', Sol w' p V' X' h f ∧ Fr p V w V' w' ∧ Gd X' n ∧ X' 2 = (X 2).set v (.int .i8 (-1)) ∧ X' 5 = X 5 ++ [.int .i32 l] ∧ X' 1 = X 1 ∧ X' 0 = X 0 ∧ X' 6 = X 6 ∧ ∀ i, X' (16 + i) = X (16 + i) := by
  obtain ⟨l1, l2, l3, l4, x8, l9, x10, l12⟩ := G
  obtain ⟨g2, c2, hV2, hg2, hg2'⟩ := S.form1 2 (by omega)
  rw [l2] at hV2
  obtain ⟨g3, c3, hV3, hg3, hg3'⟩ := S.form1 3 (by omega)
  rw [l3] at hV3
  obtain ⟨g4, c4, hV4, hg4, hg4'⟩ := S.form1 4 (by omega)
  rw [l4] at hV4
  obtain ⟨a5, c5, hV5⟩ := S.form 5
  rw [h5] at hV5
  obtain ⟨a6, c6, hV6⟩ := S.form 6
  rw [h6, List.length_nil] at hV6
  have hd : (l : Int) / 2 = (v : Int) := by omega
  have ha := and_one l (by omega) (by omega)
  have he : (l : Int) % 2 = 1 := by omega
  have hvar := fun w => fnVar l w (by omega) (by omega)
  rw [hd] at hvar
  have HV : Hid _ := hvar
  have HL : Hid _ := hl
  have k2 : w.cell? ⟨p, 2, none⟩ = some (.slice (some ⟨g2, 0, none⟩) n c2) := by rw [← hV2]; exact S.cell 2
  obtain ⟨u2, r2⟩ : ∃ u, w.cell? ⟨g2, v, none⟩ = some u := ⟨_, by rw [S.rowCell hV2 l2 v hv]; exact List.getElem?_eq_getElem (by omega)⟩
  have f2 := S.rowFree hV2 l2 v
  have hne2 : g2 ≠ p := by omega
  obtain ⟨S1, F1⟩ := S.put (k := 2) (by decide) (by decide) hV2 l2 v (.int .i8 1)
  obtain ⟨S2, F2⟩ := S1.put (k := 2) (by decide) (by decide) hV2 (by rw [upd_same, List.length_set]; exact l2) v (.int .i8 (-1))
  have HS2 : Hid _ := S2
  have HF2 : Hid _ := F1.trans F2
  clear hl hvar hd S1 S2 F1 F2 S
  go_enter Try.func17, Try.ntmps17
  go_wp2_with ((go_at_call 22; refine (HV.out _).mono ?_; rintro e w1 ⟨rfl, rfl⟩))
  obtain ⟨w3, X3, hw3, S3, F3, x32, x3k⟩ : ∃ w3 X3, w3 = (w1.setCell ⟨g2, v, none⟩ (.int .i8 1)).setCell ⟨g2, v, none⟩ (.int .i8 (-1)) ∧ Sol w3 p V X3 h f ∧ Fr p V w1 V w3 ∧ X3 2 = (X 2).set v (.int .i8 (-1)) ∧ ∀ k, k ≠ 2 → X3 k = X k :=
    ⟨_, _, rfl, HS2.out, HF2.out, by rw [upd_same, upd_same, List.set_set], fun k hk => by rw [upd_ne _ _ hk, upd_ne _ _ hk]⟩
  rw [← hw3]
  have l33 : (X3 3).length = n := by rw [x3k 3 (by decide)]; exact l3
  clear HS2 HF2 hw3 k2 r2 f2
  have k3 : w3.cell? ⟨p, 3, none⟩ = some (.slice (some ⟨g3, 0, none⟩) n c3) := by rw [← hV3]; exact S3.cell 3
  have k6 : w3.cell? ⟨p, 6, none⟩ = some (.slice a6 0 c6) := by rw [← hV6]; exact S3.cell 6
  have HS3 : Hid _ := S3
  have HF3 : Hid _ := F3
  clear S3 F3
  refine wp_region_mix (C := fun w' => w' = w3.drew) [0, 1, 2, 3, 4, 5, 6, 7, 8, 9] [] 10 (by kernel_rfl) (by kernel_rfl) (by kernel_rfl) rfl ?_
  simp only [List.map_cons, List.map_nil, List.getD_cons_succ, List.getD_cons_zero, wpChain, List.drop_succ_cons, List.drop_zero]
  repeat (go_big_quiet_step (fail))
  refine wpQuiet_nil ?_
  refine ⟨trivial, ?_⟩
  obtain ⟨w4, hw4, S4, F4⟩ : ∃ w4, w4 = w3.drew ∧ Sol w4 p V X3 h f ∧ Fr p V w1 V w4 := ⟨_, rfl, HS3.out.below ((Below.refl _ _).drew), HF3.out.trans (Fr.of_below ((Below.refl _ _).drew))⟩
  rw [← hw4]
  clear hw4 HS3 HF3 k3 k6
  obtain ⟨u3, r3⟩ : ∃ u, w4.cell? ⟨g3, v, none⟩ = some u := ⟨_, by rw [S4.rowCell hV3 l33 v hv]; exact List.getElem?_eq_getElem (by omega)⟩
  have f3 := S4.rowFree hV3 l33 v
  have hne3 : g3 ≠ p := by omega
  obtain ⟨S5, F5⟩ := S4.put (k := 3) (by decide) (by decide) hV3 l33 v (.int .i64 0)
  have l44 : (upd X3 3 ((X3 3).set v (.int .i64 0)) 4).length = n := by rw [upd_ne _ _ (by decide), x3k 4 (by decide)]; exact l4
  have hne43 : g4 ≠ g3 := fun e => by
    have := S4.own.apart 4 3 g4 (by decide) (by rw [hV4]; rfl)
    rw [hV3] at this; exact this (by rw [e]; rfl)
  have k4 : w4.cell? ⟨p, 4, none⟩ = some (.slice (some ⟨g4, 0, none⟩) n c4) := by rw [← hV4]; exact S4.cell 4
  have k5 : w4.cell? ⟨p, 5, none⟩ = some (.slice a5 n5 c5) := by rw [← hV5]; exact S4.cell 5
  have f5 := S4.frozen 5
  obtain ⟨u4, r4⟩ : ∃ u, w4.cell? ⟨g4, v, none⟩ = some u := ⟨_, by rw [S4.rowCell hV4 (by rw [x3k 4 (by decide)]; exact l4) v hv, List.getElem?_eq_getElem (by rw [x3k 4 (by decide)]; omega)]⟩
  have f4 := S4.rowFree hV4 (by rw [x3k 4 (by decide)]; exact l4) v
  have hne4 : g4 ≠ p := by omega
  obtain ⟨S6, F6⟩ := S5.put (k := 4) (by decide) (by decide) hV4 l44 v (.int .i64 (-1))
  have HS6 : Hid _ := S6
  have HF6 : Hid _ := (F4.trans F5).trans F6
  clear S4 S5 S6 F4 F5 F6
  have h55 : (upd (upd X3 3 ((X3 3).set v (.int .i64 0))) 4 ((upd X3 3 ((X3 3).set v (.int .i64 0)) 4).set v (.int .i64 (-1))) 5).length = n5 := by rw [upd_ne _ _ (by decide), upd_ne _ _ (by decide), x3k 5 (by decide)]; exact h5
  go_wp2_with (at_builtin; refine wpList_push (HS6.out.below ((Below.refl _ _).alloc (Nat.le_refl _) (.cells #[.int .i32 l] 42))) 5 n5 rfl h55 rfl (.tmp 46) (.tmp 48) 29 rfl Try.underlying29 Try.infoE5 rfl (by decide) [.int .i32 l] 1 rfl (by decide) (by omega) ?one (fun h => absurd h (by decide)) _ hV5 rfl w4.heap.size 1 rfl 42 (0, 0) ?hB ?kont)
  case one => intro u hu; simp at hu; subst hu; rfl
  case hB => exact heap_alloc_at _ _ _ (by simp [World.setCell])
  case kont =>
  intro g5 c5' w7 hc hf S7 F7
  have k5' : w7.cell? ⟨p, 5, none⟩ = some (.slice a5 n5 c5) := by rw [← hV5]; exact hc 5
  have f5' := hf 5
  clear hc hf
  have HS7 : Hid _ := S7
  have HF7 : Hid _ := (HF6.out.trans (Fr.of_below ((Below.refl _ _).alloc (Nat.le_refl _) _))).trans F7
  clear S7 F7
  go_wp2
  go_end0
  refine ⟨rfl, _, _, HS7.out, HF7.out, ⟨?_, ?_, ?_, ?_, ?_, ?_, ?_, ?_⟩, ?_, ?_, ?_, ?_, ?_, ?_⟩
  · simp [upd, x3k 1, l1]
  · simp [upd, x32, l2]
  · simp [upd, l3]
  · simp [upd, x3k 4, l4]
  · simp [upd, x3k 8, x8]
  · simp [upd, x3k 9, l9]
  · simp [upd, x3k 10, x10]
  · simp [upd, x3k 12, l12]
  · simp [upd, x32]
  · simp [upd, x3k 5]
  · simp [upd, x3k 1]
  · simp [upd, x3k 0]
  · simp [upd, x3k 6]
  · intro i; rw [upd_ne _ _ (by omega), upd_ne _ _ (by omega), upd_ne _ _ (by omega), x3k _ (by omega)]
end
end Go.Proofs.Qxb6609294a
