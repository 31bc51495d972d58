/- queue.push 11, queue.add 9. -/
import Derived.Test.Qxb6609294aQue
namespace Go.Proofs.Qxb6609294a
open Go.RowKit
set_option linter.unusedVariables false

def heapL (n : Nat) : List Value := (List.range n).map fun (i : Nat) => Value.int .i32 (i : Int)
def zeroL (n : Nat) : List Value := List.replicate n (Value.float .f64 0)
theorem heapL_len (n : Nat) : (heapL n).length = n := by simp [heapL]
theorem zeroL_len (n : Nat) : (zeroL n).length = n := by simp [zeroL]
theorem heapL_get (n i : Nat) (h : i < n) : (heapL n)[i]? = some (.int .i32 (i : Int)) := by simp [heapL, h]
theorem zeroL_get (n i : Nat) (h : i < n) : (zeroL n)[i]? = some (.float .f64 0) := by simp [zeroL, h]
theorem heapL_succ (n : Nat) : heapL n ++ [.int .i32 (n : Int)] = heapL (n + 1) := by simp [heapL, List.range_succ]
theorem zeroL_succ (n : Nat) : zeroL n ++ [.float .f64 0] = zeroL (n + 1) := by simp [zeroL, List.replicate_succ']

section
variable {w : World} {p : Nat} {V : Nat → Value} {X : Nat → List Value} {h : Int} {f : Bool}

theorem Sol.rowCell (S : Sol w p V X h f) {k g n c : Nat} (hv : V k = .slice (some ⟨g, 0, none⟩) n c) (hn : (X k).length = n) (i : Nat) (hi : i < n) : w.cell? ⟨g, i, none⟩ = (X k)[i]? := by
  have := S.own.row k
  rw [hv, hn] at this
  exact this.cellAt i (by omega)
theorem Sol.rowFree (S : Sol w p V X h f) {k g n c : Nat} (hv : V k = .slice (some ⟨g, 0, none⟩) n c) (hn : (X k).length = n) (i : Nat) : w.frozen? ⟨g, i, none⟩ = false := by
  have := S.own.row k
  rw [hv, hn] at this
  exact this.frozenAt i

theorem Try.info40 : (Try.prog.info? (E 8)).map (fun i => (i.zero, i.size, i.bytes)) = some (some (.int .i32 0), 1, 4) := by kernel_rfl
theorem Try.info3 : (Try.prog.info? (E 9)).map (fun i => (i.zero, i.size, i.bytes)) = some (some (.int .i64 0), 1, 8) := by kernel_rfl

theorem heap_alloc_at (w : World) (o : Obj) (b : Nat) (h : b = w.heap.size) : (w.alloc o).heap[b]? = some o := by subst h; exact heap_alloc_new w o
theorem belowDrewN {B : Nat} {a w : World} (h : Below B a w) (m : Nat) : Below B a (w.drewN m) := ⟨h.os, h.tape, h.output, h.size, h.block⟩

set_option maxHeartbeats 1000000 in
set_option maxRecDepth 100000 in
theorem push_ok (S : Sol w p V X h f) (n : Nat) (x8 : X 8 = heapL n) (x10 : X 10 = zeroL (n + 1)) (l9 : (X 9).length = n + 1) (h9 : (X 9)[n]? = some (.int .i64 (-1))) (hn : n ≤ 100000) :
    Calls Try.prog 11 #[.pointer (some ⟨p, 8, none⟩), .int .i32 n] w fun e w' => e = .returned (.tuple #[]) ∧
      ∃ V' X', Sol w' p V' X' h f ∧ Fr p V w V' w' ∧ X' 8 = heapL (n + 1) ∧ (X' 9).length = n + 1 ∧ ∀ k, k ≠ 8 → k ≠ 9 → X' k = X k := by
  obtain ⟨g9, c9, hV9, hg9, hg9'⟩ := S.form1 9 (by omega)
  rw [l9] at hV9
  have l8 : (X 8).length = n := by rw [x8, heapL_len]
  obtain ⟨a8, c8, hV8⟩ := S.form 8
  rw [l8] at hV8
  have k9 : w.cell? ⟨p, 9, none⟩ = some (.slice (some ⟨g9, 0, none⟩) (n + 1) c9) := by rw [← hV9]; exact S.cell 9
  have k8 : w.cell? ⟨p, 8, none⟩ = some (.slice a8 n c8) := by rw [← hV8]; exact S.cell 8
  have r9 : w.cell? ⟨g9, n, none⟩ = some (.int .i64 (-1)) := by rw [S.rowCell hV9 l9 n (by omega)]; exact h9
  have f9 : w.frozen? ⟨g9, n, none⟩ = false := S.rowFree hV9 l9 n
  have hne : g9 ≠ p := by omega
  obtain ⟨g10, c10, hV10, _, _⟩ := S.form1 10 (by rw [x10, zeroL_len]; omega)
  rw [x10, zeroL_len] at hV10
  have HS : Hid (Sol w p V X h f) := S
  clear S
  go_enter Try.func11, Try.ntmps11
  go_wp2_with (fail)
  refine wp_region_mix (C := fun w' => w' = w.drew) [0, 1, 2, 3, 4, 5, 6, 7, 8, 9] [] 10 (by kernel_rfl) (by kernel_rfl) (by kernel_rfl) rfl ?_
  simp only [List.map_cons, List.map_nil, List.getD_cons_succ, List.getD_cons_zero, wpChain, List.drop_succ_cons, List.drop_zero]
  repeat (go_big_quiet_step (fail))
  refine wpQuiet_nil ?_
  refine ⟨trivial, ?_⟩
  have S1 : Sol w.drew p V X h f := HS.out.below ((Below.refl _ _).drew)
  have F1 : Fr p V w V w.drew := Fr.of_below ((Below.refl _ _).drew)
  clear k9 k8 r9 f9
  generalize w.drew = w1 at *
  have k8 : w1.cell? ⟨p, 8, none⟩ = some (.slice a8 n c8) := by rw [← hV8]; exact S1.cell 8
  have r9 : w1.cell? ⟨g9, n, none⟩ = some (.int .i64 (-1)) := by rw [S1.rowCell hV9 l9 n (by omega)]; exact h9
  have f9 : w1.frozen? ⟨g9, n, none⟩ = false := S1.rowFree hV9 l9 n
  obtain ⟨S2, F2⟩ := S1.put (k := 9) (by decide) (by decide) hV9 l9 n (.int .i64 n)
  have HS2 : Hid _ := S2
  have HF2 : Hid _ := F1.trans F2
  clear S1 S2 F1 F2
  go_wp2_with (at_builtin; refine wpList_push (HS2.out.below ((Below.refl _ _).alloc (Nat.le_refl _) (.cells #[.int .i32 n] 40))) 8 n rfl ?l8 rfl (.tmp 27) (.tmp 29) 30 rfl Try.underlying30 Try.info40 rfl (by decide) [.int .i32 n] 1 rfl (by decide) (by omega) ?one (fun h => absurd h (by decide)) _ hV8 rfl w1.heap.size 1 ?hx 40 (0, 0) ?hB ?k)
  case l8 => rw [upd_ne _ _ (by decide), l8]
  case one => intro u hu; simp at hu; subst hu; rfl
  case hx => rfl
  case hB => exact heap_alloc_at _ _ _ (by simp [World.setCell])
  case k =>
    intro g8 c8' w2 hc hf S3 F3
    have k8' : w2.cell? ⟨p, 8, none⟩ = some (.slice a8 n c8) := by rw [← hV8]; exact hc 8
    have f8' := hf 8
    clear hc hf
    have HS3 : Hid _ := S3
    have HF3 : Hid _ := (HF2.out.trans (Fr.of_below ((Below.refl _ _).alloc (Nat.le_refl _) _))).trans F3
    clear S3 F3
    have j10 : (w2.setCell ⟨p, 8, none⟩ (.slice (some ⟨g8, 0, none⟩) (n + 1) c8')).cell? ⟨p, 10, none⟩ = some (.slice (some ⟨g10, 0, none⟩) (n + 1) c10) := by
      rw [← hV10]; exact HS3.out.cell 10
    have j8 : (w2.setCell ⟨p, 8, none⟩ (.slice (some ⟨g8, 0, none⟩) (n + 1) c8')).cell? ⟨p, 8, none⟩ = some (.slice (some ⟨g8, 0, none⟩) (n + 1) c8') := HS3.out.cell 8
    have jh : ∀ i : Nat, i < n + 1 → (w2.setCell ⟨p, 8, none⟩ (.slice (some ⟨g8, 0, none⟩) (n + 1) c8')).cell? ⟨g8, i, none⟩ = some (.int .i32 i) := fun i hi => by
      rw [HS3.out.rowCell (k := 8) (upd_same _ _ _) (by rw [upd_same, upd_ne _ _ (by decide)]; simp [l8]) i hi, upd_same, upd_ne _ _ (by decide), x8, heapL_succ]
      exact heapL_get _ _ hi
    have ja : ∀ i : Nat, i < n + 1 → (w2.setCell ⟨p, 8, none⟩ (.slice (some ⟨g8, 0, none⟩) (n + 1) c8')).cell? ⟨g10, i, none⟩ = some (.float .f64 0) := fun i hi => by
      rw [HS3.out.rowCell (k := 10) (by rw [upd_ne _ _ (by decide)]; exact hV10) (by rw [upd_ne _ _ (by decide), upd_ne _ _ (by decide), x10, zeroL_len]) i hi, upd_ne _ _ (by decide), upd_ne _ _ (by decide), x10]
      exact zeroL_get _ _ hi
    have HJ : Hid _ := up_stays (p := p) g8 c8' g10 c10 (n + 1) n _ j8 j10 (by omega) jh ja (by omega)
    clear j10 j8 jh ja
    go_wp2_with (go_at_call 15; refine Calls.mono HJ.out ?_; rintro e w3 ⟨rfl, m, rfl⟩)
    go_wp2
    go_end0
    refine ⟨rfl, _, _, HS3.out.below (belowDrewN (Below.refl _ _) m), HF3.out.trans (Fr.of_below (belowDrewN (Below.refl _ _) m)), ?_, ?_, ?_⟩
    · rw [upd_same, upd_ne _ _ (by decide), x8, heapL_succ]
    · rw [upd_ne _ _ (by decide), upd_same]; simp [l9]
    · intro k h8 h9; rw [upd_ne _ _ h8, upd_ne _ _ h9]
end
end Go.Proofs.Qxb6609294a
