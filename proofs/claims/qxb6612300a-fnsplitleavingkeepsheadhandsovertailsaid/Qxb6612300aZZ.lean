/- The walks of ZZsplitHandover (21), ZZsplitCopies (23), ZZsplitRestore (24). -/
import Derived.Test.Qxb6612300aRenew
namespace Go.Proofs.Qxb6612300a
open Go.RowKit
set_option linter.unusedVariables false

theorem eql_nil106 (w : World) (a : Option Addr) (n c : Nat) : (binOp .eql 106 (.slice a n c) (.slice none 0 0)).run Try.prog w = .ok (.bool a.isNone) w :=
  Lib.run_eql_slice_nil w 106 110 a n c 0 0 Try.underlying106

set_option maxRecDepth 100000 in
set_option maxHeartbeats 1000000 in
theorem zzHandover (g len : Nat) (hl : len ≤ 32768) (h2 : 2 ≤ len) (w : World) :
    Calls Try.prog 21 #[.agg #[.slice (some ⟨g, 0, none⟩) len len]] w fun e w' => e = .returned (.tuple #[.bool false, .int .i64 2, .agg #[halfA g len], .bool true, .agg #[halfB g len], .bool true]) ∧ Below w.heap.size w w' := by
  have q0 := ta42_42
  have hn := eql_nil106
  have H34 : Hid (∀ W, Calls Try.prog 34 #[.iface 42 (.agg #[.slice (some ⟨g, 0, none⟩) len len])] W fun e w' => SplitTo W (.iface 42 (.agg #[halfA g len])) (.iface 42 (.agg #[halfB g len])) e w' ∧ Below W.heap.size W w') := fun W => split42 g len hl h2 W
  go_enter Try.func21, Try.ntmps21
  go_wp2_with (go_at_call 34; refine (H34.out _).mono ?_)
  rintro e w1 ⟨⟨p, rfl, hp⟩, hb1⟩
  have hB1 : Below w.heap.size w w1 := ((((Below.refl _ _).alloc (Nat.le_refl _) _).alloc (by simp) _).alloc (by simp; omega) _).trans (hb1.mono (by simp; omega))
  have hlow := hp.low
  simp only [World.size_alloc] at hlow
  have c1 : w1.cell? ⟨p, 0, none⟩ = some (.iface 42 (.agg #[.slice (some ⟨g, 0, none⟩) (len / 2) len])) := hp.one
  have c2 : w1.cell? ⟨p, 1, none⟩ = some (.iface 42 (.agg #[.slice (some ⟨g, len / 2 * 22, none⟩) (len - len / 2) (len - len / 2)])) := hp.two
  have c3 : w1.cell? ⟨w.heap.size + 1, 0, none⟩ = some (.slice none 0 0) := by
    rw [hb1.cell (by simp), World.cell?_alloc_past _ _ _ (by simp), World.cell?_alloc_at _ _ _ _ (by simp)]; rfl
  have f3 : w1.frozen? ⟨w.heap.size + 1, 0, none⟩ = false := by
    rw [hb1.frozen (by simp), World.frozen?_alloc_past _ _ _ (by simp), World.frozen?_alloc_at _ _ _ _ (by simp)]
  have c4 : w1.cell? ⟨w.heap.size + 1 + 1, 0, none⟩ = some (.slice none 0 0) := by
    rw [hb1.cell (by simp), World.cell?_alloc_at _ _ _ _ (by simp)]; rfl
  have f4 : w1.frozen? ⟨w.heap.size + 1 + 1, 0, none⟩ = false := by
    rw [hb1.frozen (by simp), World.frozen?_alloc_at _ _ _ _ (by simp)]
  have n3 : ¬ w.heap.size + 1 = p := by omega
  have n4 : ¬ w.heap.size + 1 + 1 = p := by omega
  clear hb1 hp hlow
  go_wp2
  exact bodyPost_ret (v := .tuple #[.bool false, .int .i64 2, .agg #[halfA g len], .bool true, .agg #[halfB g len], .bool true]) (by simp [results, Try.results21, go_sem, c3, c4, halfA, halfB]) rfl ⟨rfl, (hB1.setCell (by simp) _).setCell (by simp; omega) _⟩

set_option maxRecDepth 100000 in
set_option maxHeartbeats 1000000 in
theorem zzHandover_few (a : Option Addr) (len cap : Nat) (h2 : len < 2) (w : World) :
    Calls Try.prog 21 #[.agg #[.slice a len cap]] w fun e w' => e = .returned (.tuple #[.bool true, .int .i64 0, .agg #[.slice none 0 0], .bool false, .agg #[.slice none 0 0], .bool false]) ∧ Below w.heap.size w w' := by
  have hn := eql_nil106
  have H34 : Hid (∀ W, Calls Try.prog 34 #[.iface 42 (.agg #[.slice a len cap])] W fun e w' => e = .returned (.slice none 0 0) ∧ Below W.heap.size W w') := fun W => split42_few a len cap h2 W
  go_enter Try.func21, Try.ntmps21
  go_wp2_with (go_at_call 34; refine (H34.out _).mono ?_)
  rintro e w1 ⟨rfl, hb1⟩
  have hB1 : Below w.heap.size w w1 := ((((Below.refl _ _).alloc (Nat.le_refl _) _).alloc (by simp) _).alloc (by simp; omega) _).trans (hb1.mono (by simp; omega))
  have c3 : w1.cell? ⟨w.heap.size + 1, 0, none⟩ = some (.slice none 0 0) := by
    rw [hb1.cell (by simp), World.cell?_alloc_past _ _ _ (by simp), World.cell?_alloc_at _ _ _ _ (by simp)]; rfl
  have c4 : w1.cell? ⟨w.heap.size + 1 + 1, 0, none⟩ = some (.slice none 0 0) := by
    rw [hb1.cell (by simp), World.cell?_alloc_at _ _ _ _ (by simp)]; rfl
  clear hb1
  go_wp2
  exact bodyPost_ret (v := .tuple #[.bool true, .int .i64 0, .agg #[.slice none 0 0], .bool false, .agg #[.slice none 0 0], .bool false]) (by simp [results, Try.results21, go_sem, c3, c4]) rfl ⟨rfl, hB1⟩

set_option maxRecDepth 100000 in
set_option maxHeartbeats 1000000 in
theorem zzCopies (g len : Nat) (hl : len ≤ 32768) (h2 : 2 ≤ len) (w : World) :
    Calls Try.prog 23 #[.agg #[.slice (some ⟨g, 0, none⟩) len len]] w fun e w' => e = .returned (.tuple #[.bool false, .int .i64 2, .agg #[halfA g len], .bool true, .agg #[halfB g len], .bool true]) ∧ Below w.heap.size w w' := by
  have q0 := ta46_46
  have hn := eql_nil106
  have H34 : Hid (∀ W, Calls Try.prog 34 #[.iface 46 (.agg #[.slice (some ⟨g, 0, none⟩) len len])] W fun e w' => SplitTo W (.iface 46 (.agg #[halfA g len])) (.iface 46 (.agg #[halfB g len])) e w' ∧ Below W.heap.size W w') := fun W => split46 g len hl h2 W
  go_enter Try.func23, Try.ntmps23
  go_wp2_with (go_at_call 34; refine (H34.out _).mono ?_)
  rintro e w1 ⟨⟨p, rfl, hp⟩, hb1⟩
  have hB1 : Below w.heap.size w w1 := ((((Below.refl _ _).alloc (Nat.le_refl _) _).alloc (by simp) _).alloc (by simp; omega) _).trans (hb1.mono (by simp; omega))
  have hlow := hp.low
  simp only [World.size_alloc] at hlow
  have c1 : w1.cell? ⟨p, 0, none⟩ = some (.iface 46 (.agg #[.slice (some ⟨g, 0, none⟩) (len / 2) len])) := hp.one
  have c2 : w1.cell? ⟨p, 1, none⟩ = some (.iface 46 (.agg #[.slice (some ⟨g, len / 2 * 22, none⟩) (len - len / 2) (len - len / 2)])) := hp.two
  have c3 : w1.cell? ⟨w.heap.size + 1, 0, none⟩ = some (.slice none 0 0) := by
    rw [hb1.cell (by simp), World.cell?_alloc_past _ _ _ (by simp), World.cell?_alloc_at _ _ _ _ (by simp)]; rfl
  have f3 : w1.frozen? ⟨w.heap.size + 1, 0, none⟩ = false := by
    rw [hb1.frozen (by simp), World.frozen?_alloc_past _ _ _ (by simp), World.frozen?_alloc_at _ _ _ _ (by simp)]
  have c4 : w1.cell? ⟨w.heap.size + 1 + 1, 0, none⟩ = some (.slice none 0 0) := by
    rw [hb1.cell (by simp), World.cell?_alloc_at _ _ _ _ (by simp)]; rfl
  have f4 : w1.frozen? ⟨w.heap.size + 1 + 1, 0, none⟩ = false := by
    rw [hb1.frozen (by simp), World.frozen?_alloc_at _ _ _ _ (by simp)]
  have n3 : ¬ w.heap.size + 1 = p := by omega
  have n4 : ¬ w.heap.size + 1 + 1 = p := by omega
  clear hb1 hp hlow
  go_wp2
  exact bodyPost_ret (v := .tuple #[.bool false, .int .i64 2, .agg #[halfA g len], .bool true, .agg #[halfB g len], .bool true]) (by simp [results, Try.results23, go_sem, c3, c4, halfA, halfB]) rfl ⟨rfl, (hB1.setCell (by simp) _).setCell (by simp; omega) _⟩

set_option maxRecDepth 100000 in
set_option maxHeartbeats 1000000 in
theorem zzCopies_few (a : Option Addr) (len cap : Nat) (h2 : len < 2) (w : World) :
    Calls Try.prog 23 #[.agg #[.slice a len cap]] w fun e w' => e = .returned (.tuple #[.bool true, .int .i64 0, .agg #[.slice none 0 0], .bool false, .agg #[.slice none 0 0], .bool false]) ∧ Below w.heap.size w w' := by
  have hn := eql_nil106
  have H34 : Hid (∀ W, Calls Try.prog 34 #[.iface 46 (.agg #[.slice a len cap])] W fun e w' => e = .returned (.slice none 0 0) ∧ Below W.heap.size W w') := fun W => split46_few a len cap h2 W
  go_enter Try.func23, Try.ntmps23
  go_wp2_with (go_at_call 34; refine (H34.out _).mono ?_)
  rintro e w1 ⟨rfl, hb1⟩
  have hB1 : Below w.heap.size w w1 := ((((Below.refl _ _).alloc (Nat.le_refl _) _).alloc (by simp) _).alloc (by simp; omega) _).trans (hb1.mono (by simp; omega))
  have c3 : w1.cell? ⟨w.heap.size + 1, 0, none⟩ = some (.slice none 0 0) := by
    rw [hb1.cell (by simp), World.cell?_alloc_past _ _ _ (by simp), World.cell?_alloc_at _ _ _ _ (by simp)]; rfl
  have c4 : w1.cell? ⟨w.heap.size + 1 + 1, 0, none⟩ = some (.slice none 0 0) := by
    rw [hb1.cell (by simp), World.cell?_alloc_at _ _ _ _ (by simp)]; rfl
  clear hb1
  go_wp2
  exact bodyPost_ret (v := .tuple #[.bool true, .int .i64 0, .agg #[.slice none 0 0], .bool false, .agg #[.slice none 0 0], .bool false]) (by simp [results, Try.results23, go_sem, c3, c4]) rfl ⟨rfl, hB1⟩

set_option maxRecDepth 100000 in
set_option maxHeartbeats 1000000 in
theorem zzRestore (g len : Nat) (hl : len ≤ 32768) (h2 : 2 ≤ len) (w : World) :
    Calls Try.prog 24 #[.agg #[.slice (some ⟨g, 0, none⟩) len len]] w fun e w' => e = .returned (.tuple #[.bool false, .int .i64 2, .agg #[halfA g len], .bool true, .agg #[halfB g len], .bool true]) ∧ Below w.heap.size w w' := by
  have q0 := ta49_49
  have hn := eql_nil106
  have H34 : Hid (∀ W, Calls Try.prog 34 #[.iface 49 (.agg #[.slice (some ⟨g, 0, none⟩) len len])] W fun e w' => SplitTo W (.iface 49 (.agg #[halfA g len])) (.iface 49 (.agg #[halfB g len])) e w' ∧ Below W.heap.size W w') := fun W => split49 g len hl h2 W
  go_enter Try.func24, Try.ntmps24
  go_wp2_with (go_at_call 34; refine (H34.out _).mono ?_)
  rintro e w1 ⟨⟨p, rfl, hp⟩, hb1⟩
  have hB1 : Below w.heap.size w w1 := ((((Below.refl _ _).alloc (Nat.le_refl _) _).alloc (by simp) _).alloc (by simp; omega) _).trans (hb1.mono (by simp; omega))
  have hlow := hp.low
  simp only [World.size_alloc] at hlow
  have c1 : w1.cell? ⟨p, 0, none⟩ = some (.iface 49 (.agg #[.slice (some ⟨g, 0, none⟩) (len / 2) len])) := hp.one
  have c2 : w1.cell? ⟨p, 1, none⟩ = some (.iface 49 (.agg #[.slice (some ⟨g, len / 2 * 22, none⟩) (len - len / 2) (len - len / 2)])) := hp.two
  have c3 : w1.cell? ⟨w.heap.size + 1, 0, none⟩ = some (.slice none 0 0) := by
    rw [hb1.cell (by simp), World.cell?_alloc_past _ _ _ (by simp), World.cell?_alloc_at _ _ _ _ (by simp)]; rfl
  have f3 : w1.frozen? ⟨w.heap.size + 1, 0, none⟩ = false := by
    rw [hb1.frozen (by simp), World.frozen?_alloc_past _ _ _ (by simp), World.frozen?_alloc_at _ _ _ _ (by simp)]
  have c4 : w1.cell? ⟨w.heap.size + 1 + 1, 0, none⟩ = some (.slice none 0 0) := by
    rw [hb1.cell (by simp), World.cell?_alloc_at _ _ _ _ (by simp)]; rfl
  have f4 : w1.frozen? ⟨w.heap.size + 1 + 1, 0, none⟩ = false := by
    rw [hb1.frozen (by simp), World.frozen?_alloc_at _ _ _ _ (by simp)]
  have n3 : ¬ w.heap.size + 1 = p := by omega
  have n4 : ¬ w.heap.size + 1 + 1 = p := by omega
  clear hb1 hp hlow
  go_wp2
  exact bodyPost_ret (v := .tuple #[.bool false, .int .i64 2, .agg #[halfA g len], .bool true, .agg #[halfB g len], .bool true]) (by simp [results, Try.results24, go_sem, c3, c4, halfA, halfB]) rfl ⟨rfl, (hB1.setCell (by simp) _).setCell (by simp; omega) _⟩

set_option maxRecDepth 100000 in
set_option maxHeartbeats 1000000 in
theorem zzRestore_few (a : Option Addr) (len cap : Nat) (h2 : len < 2) (w : World) :
    Calls Try.prog 24 #[.agg #[.slice a len cap]] w fun e w' => e = .returned (.tuple #[.bool true, .int .i64 0, .agg #[.slice none 0 0], .bool false, .agg #[.slice none 0 0], .bool false]) ∧ Below w.heap.size w w' := by
  have hn := eql_nil106
  have H34 : Hid (∀ W, Calls Try.prog 34 #[.iface 49 (.agg #[.slice a len cap])] W fun e w' => e = .returned (.slice none 0 0) ∧ Below W.heap.size W w') := fun W => split49_few a len cap h2 W
  go_enter Try.func24, Try.ntmps24
  go_wp2_with (go_at_call 34; refine (H34.out _).mono ?_)
  rintro e w1 ⟨rfl, hb1⟩
  have hB1 : Below w.heap.size w w1 := ((((Below.refl _ _).alloc (Nat.le_refl _) _).alloc (by simp) _).alloc (by simp; omega) _).trans (hb1.mono (by simp; omega))
  have c3 : w1.cell? ⟨w.heap.size + 1, 0, none⟩ = some (.slice none 0 0) := by
    rw [hb1.cell (by simp), World.cell?_alloc_past _ _ _ (by simp), World.cell?_alloc_at _ _ _ _ (by simp)]; rfl
  have c4 : w1.cell? ⟨w.heap.size + 1 + 1, 0, none⟩ = some (.slice none 0 0) := by
    rw [hb1.cell (by simp), World.cell?_alloc_at _ _ _ _ (by simp)]; rfl
  clear hb1
  go_wp2
  exact bodyPost_ret (v := .tuple #[.bool true, .int .i64 0, .agg #[.slice none 0 0], .bool false, .agg #[.slice none 0 0], .bool false]) (by simp [results, Try.results24, go_sem, c3, c4]) rfl ⟨rfl, hB1⟩

end Go.Proofs.Qxb6612300a
