/- The walk of ZZsplitRenew (25). -/
import Derived.Test.Qxb6612300aZZ
namespace Go.Proofs.Qxb6612300a
open Go.RowKit
set_option linter.unusedVariables false

theorem results_six {P : Program} {fn : Func} {a b c d e f t t' : Nat} (h : fn.results = #[.tmp a, .tmp b, .cell c t, .tmp d, .cell e t', .tmp f]) (tmps : Array Value) (w : World) (x y : Value) (pc pe : Addr)
    (h1 : tmps.getD c undef = .pointer (some pc)) (h2 : tmps.getD e undef = .pointer (some pe)) (l1 : (loadVar t pc).run P w = .ok x w) (l2 : (loadVar t' pe).run P w = .ok y w) :
    (results fn tmps).run P w = .ok (.tuple #[tmps.getD a undef, tmps.getD b undef, x, tmps.getD d undef, y, tmps.getD f undef]) w := by
  have h1' : tmps[c]?.getD undef = .pointer (some pc) := by simpa using h1
  have h2' : tmps[e]?.getD undef = .pointer (some pe) := by simpa using h2
  simp [results, h, asAddr, h1', h2', l1, l2]

/-- a row loaded as a result -/
theorem run_result_row {w : World} {b o n t : Nat} {d : TypeDesc} {cs : List Value} (hc : rd w b o n = some cs) (hu : Try.prog.underlying t = some d) (hd : d.isRow = true) (hi : (Try.prog.info? t).map (·.size) = some n) :
    (loadVar t ⟨b, o, none⟩).run Try.prog w = .ok (.agg cs.toArray) w := by
  obtain ⟨hl, hr⟩ := rd_iff.1 hc
  exact run_loadVar_mid w b o t cs d hr hu hd (by rw [hi, hl])

theorem cell_setCells_other (w : World) (b o : Nat) (vs : List Value) (x : Addr) (h : x.block ≠ b) : (w.setCells b o vs).cell? x = w.cell? x :=
  World.cell?_setCells_out b vs o w x (fun e _ => absurd e h)

attribute [local go_sem ↓] ex_load25 ex_load29 ex_build53 ex_alloc53 ex_store53 ex_load53
attribute [local go_sem] run_ld25 run_ld29 run_ld53 run_bld53 run_al53 renew_items renew_items' renew_upto renewC_length z20_length rd_alloc_past rd_alloc_row

set_option maxRecDepth 100000 in
set_option maxHeartbeats 1000000 in
theorem zzRenew (g len : Nat) (u : List Int) (hu : u.length = 20) (hl : len ≤ 32768) (h2 : 2 ≤ len) (w : World) :
    Calls Try.prog 25 #[.agg (renewC (.slice (some ⟨g, 0, none⟩) len len) u).toArray] w fun e w' => e = .returned (.tuple #[.bool false, .int .i64 2, .agg (renewC (halfA g len) u).toArray, .bool true, .agg (renewC (halfB g len) u).toArray, .bool true]) ∧ Below w.heap.size w w' := by
  have q0 := ta53_53
  have hn := eql_nil106
  have H34 : Hid (∀ W, Calls Try.prog 34 #[.iface 53 (.agg (renewC (.slice (some ⟨g, 0, none⟩) len len) u).toArray)] W fun e w' => SplitTo W (.iface 53 (.agg (renewC (halfA g len) u).toArray)) (.iface 53 (.agg (renewC (halfB g len) u).toArray)) e w' ∧ Below W.heap.size W w') := fun W => split53 g len u hu hl h2 W
  go_enter Try.func25, Try.ntmps25
  go_wp2_with (go_at_call 34; refine (H34.out _).mono ?_)
  rintro e w1 ⟨⟨p, rfl, hp⟩, hb1⟩
  have hB1 : Below w.heap.size w w1 := ((((Below.refl _ _).alloc (Nat.le_refl _) _).alloc (by simp) _).alloc (by simp; omega) _).trans (hb1.mono (by simp; omega))
  have hlow := hp.low
  simp only [World.size_alloc] at hlow
  have c1 := hp.one
  have c2 := hp.two
  have zl := renewC_length (.slice none 0 0) z20 z20_length
  have t3 : w1.there (w.heap.size + 1) 0 21 := by
    refine there_below hb1 (by simp) (World.there_alloc ?_ _)
    have := there_new (w.alloc (.cells (renewC (.slice (some ⟨g, 0, none⟩) len len) u).toArray 53)) (renewC (.slice none 0 0) z20).toArray 53 21 (by simp [zl])
    simpa using this
  have t4 : w1.there (w.heap.size + 1 + 1) 0 21 := by
    refine there_below hb1 (by simp) ?_
    have := there_new ((w.alloc (.cells (renewC (.slice (some ⟨g, 0, none⟩) len len) u).toArray 53)).alloc (.cells (renewC (.slice none 0 0) z20).toArray 53)) (renewC (.slice none 0 0) z20).toArray 53 21 (by simp [zl])
    simpa using this
  have lA := renewC_length (halfA g len) u hu
  have lB := renewC_length (halfB g len) u hu
  have s1 : (stA 53 (.pointer (some ⟨w.heap.size + 1, 0, none⟩)) (.agg (renewC (halfA g len) u).toArray)).run Try.prog w1 = .ok .skip (w1.setCells (w.heap.size + 1) 0 (renewC (halfA g len) u)) :=
    run_stA_mid t3 lA (one_renewC _ _ _ u) size53
  have s2 : (stA 53 (.pointer (some ⟨w.heap.size + 1 + 1, 0, none⟩)) (.agg (renewC (halfB g len) u).toArray)).run Try.prog (w1.setCells (w.heap.size + 1) 0 (renewC (halfA g len) u)) = .ok .skip ((w1.setCells (w.heap.size + 1) 0 (renewC (halfA g len) u)).setCells (w.heap.size + 1 + 1) 0 (renewC (halfB g len) u)) :=
    run_stA_mid (World.there_setCells t4 _ _ _) lB (one_renewC _ _ _ u) size53
  have c2' : (w1.setCells (w.heap.size + 1) 0 (renewC (halfA g len) u)).cell? ⟨p, 1, none⟩ = some (.iface 53 (.agg (renewC (halfB g len) u).toArray)) := by
    rw [cell_setCells_other _ _ _ _ _ (by show p ≠ w.heap.size + 1; omega)]; exact c2
  have r1 : rd ((w1.setCells (w.heap.size + 1) 0 (renewC (halfA g len) u)).setCells (w.heap.size + 1 + 1) 0 (renewC (halfB g len) u)) (w.heap.size + 1) 0 21 = some (renewC (halfA g len) u) :=
    rd_setCells_apart (rd_setCells_same t3 lA) _ _ _ (.inl (by omega))
  have r2 : rd ((w1.setCells (w.heap.size + 1) 0 (renewC (halfA g len) u)).setCells (w.heap.size + 1 + 1) 0 (renewC (halfB g len) u)) (w.heap.size + 1 + 1) 0 21 = some (renewC (halfB g len) u) :=
    rd_setCells_same (World.there_setCells t4 _ _ _) lB
  have hB3 : Below w.heap.size w ((w1.setCells (w.heap.size + 1) 0 (renewC (halfA g len) u)).setCells (w.heap.size + 1 + 1) 0 (renewC (halfB g len) u)) :=
    bel_setCells (by omega) _ _ _ (bel_setCells (by omega) _ _ _ hB1)
  generalize (w1.setCells (w.heap.size + 1) 0 (renewC (halfA g len) u)).setCells (w.heap.size + 1 + 1) 0 (renewC (halfB g len) u) = w3 at *
  generalize w1.setCells (w.heap.size + 1) 0 (renewC (halfA g len) u) = w2 at *
  clear hb1 hp hlow c2 t3 t4 zl lA lB
  go_wp2
  exact bodyPost_ret (results_six Try.results25 _ _ _ _ _ _ rfl rfl (run_result_row r1 Try.underlying53 rfl size53) (run_result_row r2 Try.underlying53 rfl size53)) rfl ⟨rfl, hB3⟩

set_option maxRecDepth 100000 in
set_option maxHeartbeats 1000000 in
theorem zzRenew_few (a : Option Addr) (len cap : Nat) (u : List Int) (hu : u.length = 20) (h2 : len < 2) (w : World) :
    Calls Try.prog 25 #[.agg (renewC (.slice a len cap) u).toArray] w fun e w' => e = .returned (.tuple #[.bool true, .int .i64 0, .agg (renewC (.slice none 0 0) z20).toArray, .bool false, .agg (renewC (.slice none 0 0) z20).toArray, .bool false]) ∧ Below w.heap.size w w' := by
  have hn := eql_nil106
  have H34 : Hid (∀ W, Calls Try.prog 34 #[.iface 53 (.agg (renewC (.slice a len cap) u).toArray)] W fun e w' => e = .returned (.slice none 0 0) ∧ Below W.heap.size W w') := fun W => split53_few a len cap u hu h2 W
  go_enter Try.func25, Try.ntmps25
  go_wp2_with (go_at_call 34; refine (H34.out _).mono ?_)
  rintro e w1 ⟨rfl, hb1⟩
  have hB1 : Below w.heap.size w w1 := ((((Below.refl _ _).alloc (Nat.le_refl _) _).alloc (by simp) _).alloc (by simp; omega) _).trans (hb1.mono (by simp; omega))
  have zl := renewC_length (.slice none 0 0) z20 z20_length
  have r1 : rd w1 (w.heap.size + 1) 0 21 = some (renewC (.slice none 0 0) z20) := by
    rw [rd_below hb1 (by simp), rd_alloc_past _ _ _ _ _ (by simp), rd_alloc_row _ _ _ _ _ (by simp) zl]
  have r2 : rd w1 (w.heap.size + 1 + 1) 0 21 = some (renewC (.slice none 0 0) z20) := by
    rw [rd_below hb1 (by simp), rd_alloc_row _ _ _ _ _ (by simp) zl]
  clear hb1 zl
  go_wp2
  exact bodyPost_ret (results_six Try.results25 _ _ _ _ _ _ rfl rfl (run_result_row r1 Try.underlying53 rfl size53) (run_result_row r2 Try.underlying53 rfl size53)) rfl ⟨rfl, hB1⟩
end Go.Proofs.Qxb6612300a
