/- ZZanyOf 7, the two zzBytes (5, 8); the first anyOf behind fresh variables, and the second. -/
import Derived.Test.Qxb6609294aMode
namespace Go.Proofs.Qxb6609294a
open Go.RowKit
set_option linter.unusedVariables false

theorem zzBytes5 (a0 : Int) (a1 : Option Addr) (len cap : Nat) (w : World) (hl : len ≤ maxLen) :
    Calls Try.prog 5 #[.int .i64 a0, .slice a1 len cap] w fun e w' => e = .returned (.bool (decide (len ≤ 1048576))) ∧ w' = w := by
  unfold maxLen at hl
  by_cases h : len ≤ 1048576
  · have e : decide (len ≤ 1048576) = true := decide_eq_true h
    rw [e]
    clear e
    go_enter Try.func5, Try.ntmps5
    go_wp2
    go_ret
    exact ⟨rfl, rfl⟩
  · have e : decide (len ≤ 1048576) = false := decide_eq_false h
    rw [e]
    clear e
    have h' : 1048576 < len := by omega
    clear h
    go_enter Try.func5, Try.ntmps5
    go_wp2
    go_ret
    exact ⟨rfl, rfl⟩

theorem zzBytes8 (a0 : Int) (a1 : Option Addr) (len cap : Nat) (w : World) (hl : len ≤ maxLen) :
    Calls Try.prog 8 #[.int .i64 a0, .slice a1 len cap] w fun e w' => e = .returned (.bool (decide (len ≤ 1048576))) ∧ w' = w := by
  unfold maxLen at hl
  by_cases h : len ≤ 1048576
  · have e : decide (len ≤ 1048576) = true := decide_eq_true h
    rw [e]
    clear e
    go_enter Try.func8, Try.ntmps8
    go_wp2
    go_ret
    exact ⟨rfl, rfl⟩
  · have e : decide (len ≤ 1048576) = false := decide_eq_false h
    rw [e]
    clear e
    have h' : 1048576 < len := by omega
    clear h
    go_enter Try.func8, Try.ntmps8
    go_wp2
    go_ret
    exact ⟨rfl, rfl⟩

section
variable {w : World} {p : Nat} {V : Nat → Value} {X : Nat → List Value} {n : Nat}

theorem zz_cps (R : World → Prop) (x : Int) (sl : Value) (H : ∀ v, Calls Try.prog 10 #[.pointer (some ⟨w.heap.size, 0, none⟩), sl] (w.alloc (.cells #[.pointer (some ⟨p, 0, none⟩), v] 49)) fun e w' => e = .returned (.int .i32 x) ∧ R w') :
    Calls Try.prog 7 #[.pointer (some ⟨p, 0, none⟩), sl] w fun e w' => e = .returned (.int .i32 x) ∧ R w' := by
  have HH : Hid _ := H
  clear H
  go_enter Try.func7, Try.ntmps7
  go_wp2_with (go_at_call 10; refine Calls.mono (HH.out _) ?_; rintro e w1 ⟨rfl, hR⟩)
  go_ret
  exact ⟨rfl, hR⟩

/-- fresh variables, nothing else -/
structure Inv0 (w : World) (p : Nat) (V : Nat → Value) (X : Nat → List Value) (n : Nat) : Prop where
  sol : Sol w p V X 0 false
  gd : Gd X n
  zero : X 2 = List.replicate n (.int .i8 0)
  wat : X 1 = List.replicate (2 * n) nilS
  cls : X 0 = []
  trail : X 5 = []
  lev : X 6 = []
  ent : ∀ i, X (16 + i) = []

/-- behind one anyOf of k literals; n variables, the last one minted -/
def Inv2 (w : World) (p : Nat) (V : Nat → Value) (X : Nat → List Value) (n k : Nat) : Prop :=
  (0 < k ∧ InvA w p V X (n + 1) (1 + k)) ∨ (k = 0 ∧ InvB w p V X (n + 1) 1 (upd (fun _ => 0) n (-1)))

theorem any1 (I : Inv0 w p V X n) (hn : n ≤ 70000) (b k cap : Nat) (ls : List Nat) (hk : ls.length = k) (hk1 : k ≤ 70000) (hbb : Free p V w b) (hcell : ∀ i, i < k → w.cell? ⟨b, i, none⟩ = some (.int .i32 (ls.getD i 0 : Nat))) (hls : ∀ l ∈ ls, l < 2 * n) :
    Calls Try.prog 7 #[.pointer (some ⟨p, 0, none⟩), .slice (some ⟨b, 0, none⟩) k cap] w fun e w' => e = .returned (.int .i32 (2 * n : Nat)) ∧ ∃ V' X', Inv2 w' p V' X' n k ∧ Fr p V w V' w' := by
  refine zz_cps _ _ _ fun v => ?_
  have hB : Below w.heap.size w (w.alloc (.cells #[.pointer (some ⟨p, 0, none⟩), v] 49)) := (Below.refl _ _).alloc (Nat.le_refl _) _
  have hhb : Free p V (w.alloc (.cells #[.pointer (some ⟨p, 0, none⟩), v] 49)) w.heap.size := Free.new I.sol (Nat.le_refl _) (by simp)
  have chb : (w.alloc (.cells #[.pointer (some ⟨p, 0, none⟩), v] 49)).cell? ⟨w.heap.size, 0, none⟩ = some (.pointer (some ⟨p, 0, none⟩)) := by rw [cell_of_row _ _ 0 _ 49 (0, 0) (heap_alloc_new w _)]; rfl
  have hbb' := hbb.fr (Fr.of_below hB)
  have hcell' : ∀ i, i < k → (w.alloc (.cells #[.pointer (some ⟨p, 0, none⟩), v] 49)).cell? ⟨b, i, none⟩ = some (.int .i32 (ls.getD i 0 : Nat)) := fun i hi => by
    rw [World.cell?_of_block (w := w) (a := ⟨b, i, none⟩) hbb'.2]; exact hcell i hi
  by_cases hk0 : 0 < k
  · have IA : InvA w p V X n 0 := ⟨I.sol, I.gd, I.zero, by rw [I.cls]; rfl, fun i => by rw [I.ent i]; simp⟩
    refine Calls.mono (anyA (IA.below hB) (by omega) w.heap.size b k cap ls hk hk0 (by omega) (by omega) hhb chb hbb'.1 hcell' hls) ?_
    rintro e w' ⟨rfl, V', X', I', F'⟩
    exact ⟨rfl, V', X', .inl ⟨hk0, by rw [Nat.zero_add] at I'; exact I'⟩, Fr.before hB F'⟩
  · have hk0' : k = 0 := by omega
    have IB : InvB w p V X n 0 (fun _ => 0) := ⟨I.sol, I.gd, fun i hi => by rw [I.zero, List.getElem?_replicate, if_pos hi], fun _ => .inl rfl, by rw [I.trail]; rfl, fun i => by
      rw [I.sol.tie i, I.wat, List.getD_eq_getElem?_getD, List.getElem?_replicate]; split <;> rfl, I.lev⟩
    refine Calls.mono (anyB (IB.below hB) (by omega) (by omega) w.heap.size b k cap ls hk (by omega) hhb chb hbb'.1 hcell' (fun l hl => by
      have : ls = [] := List.eq_nil_of_length_eq_zero (by omega)
      rw [this] at hl; cases hl)) ?_
    rintro e w' ⟨rfl, V', X', I', F'⟩
    exact ⟨rfl, V', X', .inr ⟨hk0', I'⟩, Fr.before hB F'⟩

theorem any2 (k0 : Nat) (I : Inv2 w p V X n k0) (hn : n ≤ 70000) (b k cap : Nat) (ls : List Nat) (hk0 : ls.length = k0) (hk : k = k0 + 1) (hk1 : k ≤ 70000) (hbb : Free p V w b) (hcell : ∀ i, i < k → w.cell? ⟨b, i, none⟩ = some (.int .i32 ((ls ++ [2 * n]).getD i 0 : Nat))) (hls : ∀ l ∈ ls, l < 2 * n) :
    Calls Try.prog 7 #[.pointer (some ⟨p, 0, none⟩), .slice (some ⟨b, 0, none⟩) k cap] w fun e w' => e = .returned (.int .i32 (2 * (n + 1) : Nat)) ∧ ∃ V' X' h', Sol w' p V' X' h' false ∧ Gd X' (n + 2) ∧ Fr p V w V' w' := by
  have SG : ∃ h', Sol w p V X h' false := by
    rcases I with ⟨_, I⟩ | ⟨_, I⟩
    · exact ⟨_, I.sol⟩
    · exact ⟨_, I.sol⟩
  obtain ⟨h', S⟩ := SG
  refine zz_cps _ _ _ fun v => ?_
  have hB : Below w.heap.size w (w.alloc (.cells #[.pointer (some ⟨p, 0, none⟩), v] 49)) := (Below.refl _ _).alloc (Nat.le_refl _) _
  have hhb : Free p V (w.alloc (.cells #[.pointer (some ⟨p, 0, none⟩), v] 49)) w.heap.size := Free.new S (Nat.le_refl _) (by simp)
  have chb : (w.alloc (.cells #[.pointer (some ⟨p, 0, none⟩), v] 49)).cell? ⟨w.heap.size, 0, none⟩ = some (.pointer (some ⟨p, 0, none⟩)) := by rw [cell_of_row _ _ 0 _ 49 (0, 0) (heap_alloc_new w _)]; rfl
  have hbb' := hbb.fr (Fr.of_below hB)
  have hcell' : ∀ i, i < k → (w.alloc (.cells #[.pointer (some ⟨p, 0, none⟩), v] 49)).cell? ⟨b, i, none⟩ = some (.int .i32 ((ls ++ [2 * n]).getD i 0 : Nat)) := fun i hi => by
    rw [World.cell?_of_block (w := w) (a := ⟨b, i, none⟩) hbb'.2]; exact hcell i hi
  rcases I with ⟨hp, I⟩ | ⟨hz, I⟩
  · refine Calls.mono (anyA (I.below hB) (by omega) w.heap.size b k cap (ls ++ [2 * n]) (by simp [hk0, hk]) (by omega) (by omega) (by omega) hhb chb hbb'.1 hcell' ?_) ?_
    · intro l hl
      rcases List.mem_append.1 hl with h | h
      · have := hls l h; omega
      · rw [List.mem_singleton] at h; omega
    · rintro e w' ⟨rfl, V', X', I', F'⟩
      exact ⟨rfl, V', X', _, I'.sol, I'.gd, Fr.before hB F'⟩
  · refine Calls.mono (anyB (I.below hB) (by omega) (by omega) w.heap.size b k cap (ls ++ [2 * n]) (by simp [hk0, hk]) (by omega) hhb chb hbb'.1 hcell' ?_) ?_
    · intro l hl
      have : ls = [] := List.eq_nil_of_length_eq_zero (by omega)
      rw [this, List.nil_append, List.mem_singleton] at hl
      subst hl
      refine ⟨by omega, by omega, ?_⟩
      rw [show 2 * n / 2 = n by omega, upd_same]
    · rintro e w' ⟨rfl, V', X', I', F'⟩
      exact ⟨rfl, V', X', _, I'.sol, I'.gd, Fr.before hB F'⟩
end
end Go.Proofs.Qxb6609294a
