/- Split (34) at a Leaving; ZZsplitLeaving (29). -/
import Derived.Test.Qxb6612300aLeav
namespace Go.Proofs.Qxb6612300a
open Go.RowKit
set_option linter.unusedVariables false

theorem leav_items (xs : List Int) (s : ByteArray) (S : Value) (ys : List Int) (t : ByteArray) (T : Value) (hx : xs.length = 20) (hy : ys.length = 20) : (leavC xs s S ys t T)[43]? = some T := by
  have lx := peerC_length xs s hx
  have ly := peerC_length ys t hy
  rw [leavC, List.getElem?_append_right (by omega), lx]
  show (peerC ys t ++ [T])[21]? = _
  rw [List.getElem?_append_right (by omega), ly]; rfl

theorem leav_items_at (xs : List Int) (s : ByteArray) (S : Value) (ys : List Int) (t : ByteArray) (T : Value) (h : 43 < (leavC xs s S ys t T).length) (hx : xs.length = 20) (hy : ys.length = 20) : (leavC xs s S ys t T)[43]'h = T := by
  have := leav_items xs s S ys t T hx hy
  rw [List.getElem?_eq_getElem h] at this
  exact Option.some.inj this

attribute [local go_sem ↓] ex_load31 ex_build62 ex_alloc62 ex_store62 ex_load62
attribute [local go_sem] run_ld31 run_ld62 run_bld62 run_al62 run_st62 leav_items leav_items_at leavC_length z20_length rd_alloc_past rd_alloc_row

set_option maxRecDepth 100000 in
set_option maxHeartbeats 1000000 in
theorem split62 (g len : Nat) (xs ys : List Int) (s t : ByteArray) (a : Option Addr) (n c : Nat) (hx : xs.length = 20) (hy : ys.length = 20) (hl : len ≤ 32768) (h2 : 1 ≤ len) (w : World) :
    Calls Try.prog 34 #[.iface 62 (.agg (leavC xs s (.slice a n c) ys t (.slice (some ⟨g, 0, none⟩) len len)).toArray)] w fun e w' => SplitTo w (.iface 62 (.agg (leavC xs s (.slice a n c) ys t (halfA g len)).toArray)) (.iface 42 (.agg #[halfB g len])) e w' ∧ Below w.heap.size w w' := by
  have q0 := ta62_42
  have q1 := ta62_46
  have q2 := ta62_53
  have q3 := ta62_49
  have q4 := ta62_62
  have h37 : Hid (∀ W, Calls Try.prog 37 #[.slice (some ⟨g, 0, none⟩) len len] W fun e w' => e = .returned (.tuple #[.slice (some ⟨g, 0, none⟩) (len / 2) len, .slice (some ⟨g, len / 2 * 22, none⟩) (len - len / 2) (len - len / 2)]) ∧ Below W.heap.size W w') := fun W => halves_any g len hl (by omega) W
  go_enter Try.func34, Try.ntmps34
  go_wp2_with (go_at_call 37; refine (h37.out _).mono ?_)
  rintro e w1 ⟨rfl, hb1⟩
  have hB1 : Below w.heap.size w w1 := ((Below.refl _ _).alloc (Nat.le_refl _) _).trans (hb1.mono (by simp))
  have hz1 : w.heap.size < w1.heap.size := by have := hb1.size; simp at this; omega
  have hL := (leavAt_new w xs s (.slice a n c) ys t (.slice (some ⟨g, 0, none⟩) len len) hx hy).below hb1 (by simp)
  have l1 := hL.head
  have l2 := hL.succs
  have l3 := hL.pred
  clear hb1 hL
  go_wp2
  go_ret
  exact ⟨⟨w1.heap.size, rfl, ⟨by omega, by simp, World.cell?_alloc_at _ _ _ _ rfl, World.cell?_alloc_at _ _ _ _ rfl⟩⟩, hB1.alloc (by omega) _⟩

set_option maxRecDepth 100000 in
set_option maxHeartbeats 1000000 in
theorem split62_few (xs ys : List Int) (s t : ByteArray) (a : Option Addr) (n c : Nat) (a' : Option Addr) (c' : Nat) (hx : xs.length = 20) (hy : ys.length = 20) (w : World) :
    Calls Try.prog 34 #[.iface 62 (.agg (leavC xs s (.slice a n c) ys t (.slice a' 0 c')).toArray)] w fun e w' => e = .returned (.slice none 0 0) ∧ Below w.heap.size w w' := by
  have q0 := ta62_42
  have q1 := ta62_46
  have q2 := ta62_53
  have q3 := ta62_49
  have q4 := ta62_62
  go_enter Try.func34, Try.ntmps34
  go_wp2
  go_ret
  exact ⟨rfl, (Below.refl _ _).alloc (Nat.le_refl _) _⟩

set_option maxRecDepth 100000 in
set_option maxHeartbeats 1000000 in
theorem zzLeaving (g len : Nat) (xs ys : List Int) (s t : ByteArray) (a : Option Addr) (n c : Nat) (hx : xs.length = 20) (hy : ys.length = 20) (hl : len ≤ 32768) (h2 : 1 ≤ len) (w : World) :
    Calls Try.prog 29 #[.agg (leavC xs s (.slice a n c) ys t (.slice (some ⟨g, 0, none⟩) len len)).toArray] w fun e w' => e = .returned (.tuple #[.bool false, .int .i64 2, .agg (leavC xs s (.slice a n c) ys t (halfA g len)).toArray, .bool true, .agg #[halfB g len], .bool true]) ∧ Below w.heap.size w w' := by
  have q0 := ta62_62
  have q1 := ta42_42
  have hn := eql_nil106
  have H34 : Hid (∀ W, Calls Try.prog 34 #[.iface 62 (.agg (leavC xs s (.slice a n c) ys t (.slice (some ⟨g, 0, none⟩) len len)).toArray)] W fun e w' => SplitTo W (.iface 62 (.agg (leavC xs s (.slice a n c) ys t (halfA g len)).toArray)) (.iface 42 (.agg #[halfB g len])) e w' ∧ Below W.heap.size W w') := fun W => split62 g len xs ys s t a n c hx hy hl h2 W
  go_enter Try.func29, Try.ntmps29
  go_wp2_with (go_at_call 34; refine (H34.out _).mono ?_)
  rintro e w1 ⟨⟨p, rfl, hp⟩, hb1⟩
  have hB1 : Below w.heap.size w w1 := ((((Below.refl _ _).alloc (Nat.le_refl _) _).alloc (by simp) _).alloc (by simp; omega) _).trans (hb1.mono (by simp; omega))
  have hlow := hp.low
  simp only [World.size_alloc] at hlow
  have c1 := hp.one
  have c2 := hp.two
  have zl := leavC_length z20 .empty (.slice none 0 0) z20 .empty (.slice none 0 0) z20_length z20_length
  have t3 : w1.there (w.heap.size + 1) 0 44 := by
    refine there_below hb1 (by simp) (World.there_alloc ?_ _)
    have := there_new (w.alloc (.cells (leavC xs s (.slice a n c) ys t (.slice (some ⟨g, 0, none⟩) len len)).toArray 62)) (leavC z20 .empty (.slice none 0 0) z20 .empty (.slice none 0 0)).toArray 62 44 (by simp [zl])
    simpa using this
  have c4 : w1.cell? ⟨w.heap.size + 1 + 1, 0, none⟩ = some (.slice none 0 0) := by
    rw [hb1.cell (by simp), World.cell?_alloc_at _ _ _ _ (by simp)]; rfl
  have f4 : w1.frozen? ⟨w.heap.size + 1 + 1, 0, none⟩ = false := by
    rw [hb1.frozen (by simp), World.frozen?_alloc_at _ _ _ _ (by simp)]
  have lA := leavC_length xs s (.slice a n c) ys t (halfA g len) hx hy
  have s1 : (stA 62 (.pointer (some ⟨w.heap.size + 1, 0, none⟩)) (.agg (leavC xs s (.slice a n c) ys t (halfA g len)).toArray)).run Try.prog w1 = .ok .skip (w1.setCells (w.heap.size + 1) 0 (leavC xs s (.slice a n c) ys t (halfA g len))) :=
    run_stA_mid t3 lA (one_leavC _ _ _ _ _ _ rfl rfl) size62
  have c2' : (w1.setCells (w.heap.size + 1) 0 (leavC xs s (.slice a n c) ys t (halfA g len))).cell? ⟨p, 1, none⟩ = some (.iface 42 (.agg #[.slice (some ⟨g, len / 2 * 22, none⟩) (len - len / 2) (len - len / 2)])) := by
    rw [cell_setCells_other _ _ _ _ _ (by show p ≠ w.heap.size + 1; omega)]; exact c2
  have c4' : (w1.setCells (w.heap.size + 1) 0 (leavC xs s (.slice a n c) ys t (halfA g len))).cell? ⟨w.heap.size + 1 + 1, 0, none⟩ = some (.slice none 0 0) := by
    rw [cell_setCells_other _ _ _ _ _ (by show w.heap.size + 1 + 1 ≠ w.heap.size + 1; omega)]; exact c4
  have f4' : (w1.setCells (w.heap.size + 1) 0 (leavC xs s (.slice a n c) ys t (halfA g len))).frozen? ⟨w.heap.size + 1 + 1, 0, none⟩ = false := by
    rw [World.frozen?_setCells]; exact f4
  have r1 : rd (w1.setCells (w.heap.size + 1) 0 (leavC xs s (.slice a n c) ys t (halfA g len))) (w.heap.size + 1) 0 44 = some (leavC xs s (.slice a n c) ys t (halfA g len)) := rd_setCells_same t3 lA
  have hB2 : Below w.heap.size w (w1.setCells (w.heap.size + 1) 0 (leavC xs s (.slice a n c) ys t (halfA g len))) := bel_setCells (by omega) _ _ _ hB1
  generalize w1.setCells (w.heap.size + 1) 0 (leavC xs s (.slice a n c) ys t (halfA g len)) = w2 at *
  have r1' : rd (w2.setCell ⟨w.heap.size + 1 + 1, 0, none⟩ (.slice (some ⟨g, len / 2 * 22, none⟩) (len - len / 2) (len - len / 2))) (w.heap.size + 1) 0 44 = some (leavC xs s (.slice a n c) ys t (halfA g len)) := by
    rw [rd_congr fun j _ => World.cell?_setCell_other _ _ _ _ (by simp)]; exact r1
  have r2' : rd (w2.setCell ⟨w.heap.size + 1 + 1, 0, none⟩ (.slice (some ⟨g, len / 2 * 22, none⟩) (len - len / 2) (len - len / 2))) (w.heap.size + 1 + 1) 0 1 = some [halfB g len] := by
    simp only [rd, World.cell?_setCell_same _ _ _ c4']; rfl
  have hB3 : Below w.heap.size w (w2.setCell ⟨w.heap.size + 1 + 1, 0, none⟩ (.slice (some ⟨g, len / 2 * 22, none⟩) (len - len / 2) (len - len / 2))) := hB2.setCell (by show w.heap.size ≤ w.heap.size + 1 + 1; omega) _
  clear hb1 hp hlow c2 c4 f4 t3 zl lA
  go_wp2
  exact bodyPost_ret (results_six Try.results29 _ _ _ _ _ _ rfl rfl (run_result_row r1' Try.underlying62 rfl size62) (run_result_row r2' Try.underlying42 rfl size42)) rfl ⟨rfl, hB3⟩

set_option maxRecDepth 100000 in
set_option maxHeartbeats 1000000 in
theorem zzLeaving_few (xs ys : List Int) (s t : ByteArray) (a : Option Addr) (n c : Nat) (a' : Option Addr) (c' : Nat) (hx : xs.length = 20) (hy : ys.length = 20) (w : World) :
    Calls Try.prog 29 #[.agg (leavC xs s (.slice a n c) ys t (.slice a' 0 c')).toArray] w fun e w' => e = .returned (.tuple #[.bool true, .int .i64 0, .agg (leavC z20 .empty (.slice none 0 0) z20 .empty (.slice none 0 0)).toArray, .bool false, .agg #[.slice none 0 0], .bool false]) ∧ Below w.heap.size w w' := by
  have hn := eql_nil106
  have H34 : Hid (∀ W, Calls Try.prog 34 #[.iface 62 (.agg (leavC xs s (.slice a n c) ys t (.slice a' 0 c')).toArray)] W fun e w' => e = .returned (.slice none 0 0) ∧ Below W.heap.size W w') := fun W => split62_few xs ys s t a n c a' c' hx hy W
  go_enter Try.func29, Try.ntmps29
  go_wp2_with (go_at_call 34; refine (H34.out _).mono ?_)
  rintro e w1 ⟨rfl, hb1⟩
  have hB1 : Below w.heap.size w w1 := ((((Below.refl _ _).alloc (Nat.le_refl _) _).alloc (by simp) _).alloc (by simp; omega) _).trans (hb1.mono (by simp; omega))
  have zl := leavC_length z20 .empty (.slice none 0 0) z20 .empty (.slice none 0 0) z20_length z20_length
  have r1 : rd w1 (w.heap.size + 1) 0 44 = some (leavC z20 .empty (.slice none 0 0) z20 .empty (.slice none 0 0)) := by
    rw [rd_below hb1 (by simp), rd_alloc_past _ _ _ _ _ (by simp), rd_alloc_row _ _ _ _ _ (by simp) zl]
  have r2 : rd w1 (w.heap.size + 1 + 1) 0 1 = some [.slice none 0 0] := by
    exact (rd_below hb1 (by simp) _ _).trans (rd_alloc_row _ [.slice none 0 0] 42 _ 1 (by simp) rfl)
  clear hb1 zl
  go_wp2
  exact bodyPost_ret (results_six Try.results29 _ _ _ _ _ _ rfl rfl (run_result_row r1 Try.underlying62 rfl size62) (run_result_row r2 Try.underlying42 rfl size42)) rfl ⟨rfl, hB1⟩
end Go.Proofs.Qxb6612300a
