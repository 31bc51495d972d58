/- The law FnAnyOfNestedOrsAreNumberedInTurn, walked. -/
import Derived.Test.Qxb6609294aLaw3
namespace Go.Proofs.Qxb6609294a
open Go.RowKit
set_option linter.unusedVariables false

theorem Inv2.below {w w' : World} {p n k : Nat} {V : Nat → Value} {X : Nat → List Value} (I : Inv2 w p V X n k) (h : Below w.heap.size w w') : Inv2 w' p V X n k := by
  rcases I with ⟨a, I⟩ | ⟨a, I⟩
  · exact .inl ⟨a, I.below h⟩
  · exact .inr ⟨a, I.below h⟩

theorem nest_get (zs : List Int) (len n i : Nat) (hi : i < len + 1) (h0 : i < len → 0 ≤ zs.getD i 0) : ((cpy zs (len + 1) len).set len (.int .i32 (2 * (n : Int))))[i]? = some (.int .i32 ((lsOf zs len ++ [2 * n]).getD i 0 : Nat)) := by
  by_cases h : i = len
  · subst h
    rw [List.getElem?_set_self (by rw [cpy_len]; omega)]
    have : (lsOf zs i ++ [2 * n]).getD i 0 = 2 * n := by
      rw [List.getD_eq_getElem?_getD, List.getElem?_append_right (by rw [lsOf_len]; exact Nat.le_refl _), lsOf_len]; simp
    rw [this]
    rfl
  · have hi' : i < len := by omega
    rw [List.getElem?_set_ne (fun e => h e.symm)]
    have e1 : (cpy zs (len + 1) len)[i]? = some (.int .i32 (zs.getD i 0)) := by simp [cpy, hi, hi']
    have e2 : (lsOf zs len ++ [2 * n]).getD i 0 = (lsOf zs len).getD i 0 := by
      rw [List.getD_eq_getElem?_getD, List.getD_eq_getElem?_getD, List.getElem?_append_left (by rw [lsOf_len]; exact hi')]
    rw [e1, e2]
    exact lsOf_get zs len i hi' (h0 hi')

section
set_option maxHeartbeats 4000000 in
set_option maxRecDepth 100000 in
theorem law4 (a0 : Int) (a1 : Option Addr) (len cap : Nat) (zs : List Int) (w : World) (hl : len ≤ maxLen) (w0 : -9223372036854775808 ≤ a0 ∧ a0 ≤ 9223372036854775807) (hr : ∀ i, i < len → ∃ x, a1 = some x ∧ w.cell? (x.add i) = some (.int .i32 (zs.getD i 0)) ∧ -2147483648 ≤ zs.getD i 0 ∧ zs.getD i 0 ≤ 2147483647) :
    Calls Try.prog 4 #[.int .i64 a0, .slice a1 len cap] w fun e w' => e = .returned (.bool true) ∧ Below w.heap.size w w' := by
  have hzz := zzBytes8 a0 a1 len cap w hl
  unfold maxLen at hl
  by_cases h1 : len ≤ 1048576
  · rw [decide_eq_true h1] at hzz
    have HZ : Hid _ := hzz
    clear hzz
    by_cases h2 : len ≤ 65536
    · by_cases h3 : 0 ≤ a0
      · by_cases h4 : a0 ≤ 65536
        · obtain ⟨n, rfl⟩ := Int.eq_ofNat_of_zero_le h3
          have hn : n ≤ 65536 := by omega
          have HR : Hid _ := hr
          clear h3 h4 w0 hr h1
          go_enter Try.func4, Try.ntmps4
          go_wp2_with (go_at_call 8; refine Calls.mono HZ.out ?_; rintro e w1 ⟨rfl, rfl⟩)
          go_loop [5] (fun i => ∃ m : Nat, m ≤ len ∧ i = .int .i64 m ∧ Hid (∀ q, q < m → 0 ≤ zs.getD q 0 ∧ zs.getD q 0 < 2 * (n : Int))) (fun i => len - (intOf i).toNat)
          case atStart => exact ⟨0, by omega, rfl, fun q hq => by omega⟩
          case round =>
            obtain ⟨m, hm, rfl, Hq⟩ := hrel
            by_cases hml : m < len
            · obtain ⟨x, hx, hc, hzb, hzt⟩ := HR.out m hml
              subst hx
              obtain ⟨z, hz⟩ : ∃ z, z = zs.getD m 0 := ⟨_, rfl⟩
              rw [← hz] at hc hzb hzt
              have HZm : Hid _ := hz
              clear hz
              by_cases z0 : 0 ≤ z
              · by_cases z1 : z < 2 * (n : Int)
                · have Hq' : Hid (∀ q, q < m + 1 → 0 ≤ zs.getD q 0 ∧ zs.getD q 0 < 2 * (n : Int)) := fun q hq => by
                    by_cases hqm : q = m
                    · subst hqm; rw [← HZm.out]; exact ⟨z0, z1⟩
                    · exact Hq.out q (by omega)
                  go_wp2
                  all_goals exact ⟨⟨m + 1, by omega, by go_num, Hq'⟩, by simp [intOf]; omega⟩
                · have z1' : 2 * (n : Int) ≤ z := by omega
                  clear z1
                  go_wp2
                  go_ret
                  exact ⟨rfl, Below.refl _ _⟩
              · have z0' : z < 0 := by omega
                clear z0
                go_wp2
                go_ret
                exact ⟨rfl, Below.refl _ _⟩
            · have hml' : len = m := by omega
              subst hml'
              clear hml hm
              go_wp2
              obtain ⟨W0, hW0, HB0, HI0⟩ : ∃ W0, W0 = w1.alloc (.cells (solCells (fun _ => nilS) 0 false).toArray 39) ∧ Hid (Below w1.heap.size w1 W0) ∧ Hid (∃ V X, Inv0 W0 w1.heap.size V X 0) := ⟨_, rfl, (Below.refl _ _).alloc (Nat.le_refl _) _, _, _, Inv0.new w1⟩
              obtain ⟨p, hp⟩ : ∃ p, p = w1.heap.size := ⟨_, rfl⟩
              have hW0' : w1.alloc (.cells #[.slice none 0 0, .slice none 0 0, .slice none 0 0, .slice none 0 0, .slice none 0 0, .slice none 0 0, .slice none 0 0, .int .i64 0, .slice none 0 0, .slice none 0 0, .slice none 0 0, .float .f64 0, .slice none 0 0, .slice none 0 0, .map none, .bool false] 39) = W0 := hW0.symm
              rw [hW0']
              rw [← hp] at HI0 ⊢
              clear hW0 hW0'
              have HP : Hid _ := hp
              clear hp
              go_loopw [7] (fun i wr => ∃ q : Nat, q ≤ n ∧ i = .int .i64 q ∧ Hid (Below w1.heap.size w1 wr) ∧ Hid (∃ V X, Inv0 wr p V X q)) (fun i _ => n - (intOf i).toNat)
              case atStart => exact ⟨0, by omega, rfl, HB0, HI0⟩
              case round =>
                obtain ⟨q, hqn, rfl, HBr, HIr⟩ := hrel
                clear HB0 HI0
                by_cases hql : q < n
                · obtain ⟨V, X, I⟩ := HIr.out
                  have HJ : Hid _ := I.next (by omega)
                  have HI : Hid _ := I
                  clear I
                  go_wp2_with (go_at_call 6; refine Calls.mono HJ.out ?_; rintro e w3 ⟨rfl, hh⟩; have Hh : Hid _ := hh; clear hh)
                  obtain ⟨V', X', I', F'⟩ := Hh.out
                  exact ⟨⟨q + 1, by omega, by go_num, HBr.out.trans (F'.below HI.out.sol (by rw [HP.out]; exact Nat.le_refl _)), V', X', I'⟩, by simp [intOf]; omega⟩
                · have hql' : n = q := by omega
                  subst hql'
                  clear hql hqn
                  obtain ⟨wL, hwL⟩ : ∃ x, x = wr := ⟨_, rfl⟩
                  subst hwL
                  obtain ⟨C, hC, hmk⟩ := mk_lits len len (Nat.le_refl _) (by omega)
                  have HC : Hid _ := hC
                  clear hC
                  go_wp2
                  obtain ⟨V, X, I⟩ := HIr.out
                  have HI : Hid _ := I
                  clear I HIr hmk
                  obtain ⟨g, hg⟩ : ∃ g, g = wL.heap.size := ⟨_, rfl⟩
                  have hgr : w1.heap.size ≤ g := by rw [hg]; exact HBr.out.size
                  obtain ⟨w4, hw4, HB4, HO4⟩ : ∃ w4, w4 = wL.alloc (.cells C 42) ∧ Hid (Below wL.heap.size wL w4) ∧ Hid (w4.ownsRow wL.heap.size 42 1 (.slice (some ⟨g, 0, none⟩) len len) len (cpy zs len 0)) :=
                    ⟨_, rfl, (Below.refl _ _).alloc (Nat.le_refl _) _, by rw [cpy_zero, hg]; exact ⟨by simp, .inr ⟨wL.heap.size, len, C, rfl, Nat.le_refl _, heap_alloc_new wL _, Nat.le_refl _, by unfold maxLen; omega, by rw [HC.out]; simp, by rw [HC.out]; simp⟩⟩⟩
                  rw [← hw4, ← hg]
                  have HG : Hid _ := hg
                  clear hw4 hg HC
                  go_loopw [9] (fun i wq => ∃ q : Nat, q ≤ len ∧ i = .int .i64 q ∧ Hid (Below wL.heap.size wL wq) ∧ Hid (wq.ownsRow wL.heap.size 42 1 (.slice (some ⟨g, 0, none⟩) len len) len (cpy zs len q))) (fun i _ => len - (intOf i).toNat)
                  case atStart => exact ⟨0, by omega, rfl, HB4, HO4⟩
                  case round =>
                    obtain ⟨q, hql, rfl, HBq, HOq⟩ := hrel
                    obtain ⟨wq, hwq⟩ : ∃ x, x = wr := ⟨_, rfl⟩
                    subst hwq
                    clear HB4 HO4
                    by_cases hqlt : q < len
                    · obtain ⟨x, hx, hc, hzb, hzt⟩ := HR.out q hqlt
                      subst hx
                      obtain ⟨z, hz⟩ : ∃ z, z = zs.getD q 0 := ⟨_, rfl⟩
                      rw [← hz] at hc
                      have hc' : wq.cell? (x.add q) = some (.int .i32 z) := by
                        rw [← hc, HBq.out.cell (p := x.add q) (Nat.lt_of_lt_of_le (World.block_lt_of_cell? w1 _ hc) HBr.out.size), HBr.out.cell (p := x.add q) (World.block_lt_of_cell? w1 _ hc)]
                      have hs : wq.cell? ⟨g, q, none⟩ = some (.int .i32 0) := by
                        rw [HOq.out.cellAt q (by omega)]; exact cpy_at zs len q hqlt
                      have hf : wq.frozen? ⟨g, q, none⟩ = false := HOq.out.frozenAt q
                      have hst := HOq.out.stored q (.int .i32 z)
                      rw [hz, cpy_set zs len q hqlt, ← hz] at hst
                      have Hst : Hid _ := hst
                      have HBn : Hid (Below wL.heap.size wL (wq.setCell ⟨g, q, none⟩ (.int .i32 z))) := HBq.out.setCell (by rw [HG.out]; exact Nat.le_refl _) _
                      clear hst hc hz
                      go_wp2
                      exact ⟨⟨q + 1, by omega, by go_num, HBn, Hst.out.1⟩, by simp [intOf]; omega⟩
                    · have hqe : len = q := by omega
                      subst hqe
                      clear hqlt hql
                      have hIq := HI.out.below HBq.out
                      have hFq : Fr p V wL V wq := Fr.of_below HBq.out
                      have hown := HOq.out
                      have hlt := hown.lt g rfl
                      have hcells : ∀ i, i < len → wq.cell? ⟨g, i, none⟩ = some (.int .i32 ((lsOf zs len).getD i 0 : Nat)) := fun i hi => by
                        rw [hown.cellAt i (by omega), cpy_all zs len i hi, lsOf_get zs len i hi (Hq.out i hi).1]
                      have hJ := any1 hIq (by omega) g len len (lsOf zs len) (lsOf_len zs len) (by omega) (Free.new HI.out.sol (by rw [HG.out]; exact Nat.le_refl _) hlt.2) hcells (lsOf_lt zs len n Hq.out)
                      rw [show ((2 * n : Nat) : Int) = 2 * (n : Int) by omega] at hJ
                      have HJ : Hid _ := hJ
                      have HIq : Hid _ := hIq
                      have HFq : Hid _ := hFq
                      clear hIq hFq hown hlt hcells hJ
                      go_wp2_with (go_at_call 7; refine Calls.mono HJ.out ?_; rintro e w5 ⟨rfl, hh⟩; have Hh5 : Hid _ := hh; clear hh; refine Hid.out ?_)
                      obtain ⟨V5, X5, I5, F5⟩ := Hh5.out
                      have hfg : Free p V wq g := Free.new HI.out.sol (by rw [HG.out]; exact Nat.le_refl _) (HOq.out.lt g rfl).2
                      have hfg5 := hfg.fr F5
                      have HB5 : Hid (Below w1.heap.size w1 w5) := HBr.out.trans ((HFq.out.trans F5).below HI.out.sol (by rw [HP.out]; exact Nat.le_refl _))
                      have HS5 : Hid (∃ h5, Sol w5 p V5 X5 h5 false ∧ Gd X5 (n + 1)) := I5.solgd
                      have HI5 : Hid _ := I5
                      have Hg5 : Hid (Free p V5 w5 g) := hfg5.1
                      have Hc5 : Hid (∀ i, i < len → w5.cell? ⟨g, i, none⟩ = some (.int .i32 (zs.getD i 0))) := fun i hi => by
                        rw [World.cell?_of_block (w := wq) (a := ⟨g, i, none⟩) hfg5.2, HOq.out.cellAt i (by omega)]; exact cpy_all zs len i hi
                      unfold Hid
                      clear I5 F5 hfg hfg5 Hh5 HJ HIq HFq HOq HBq
                      obtain ⟨C2, hC2, hmk2⟩ := mk_lits (len + 1) (len + 1) (Nat.le_refl _) (by omega)
                      rw [show ((len + 1 : Nat) : Int) = (len : Int) + 1 by omega] at hmk2
                      have HC2 : Hid _ := hC2
                      clear hC2
                      go_wp2
                      obtain ⟨g2, hg2⟩ : ∃ g2, g2 = w5.heap.size := ⟨_, rfl⟩
                      obtain ⟨w6, hw6, HB6, HO6⟩ : ∃ w6, w6 = w5.alloc (.cells C2 42) ∧ Hid (Below w5.heap.size w5 w6) ∧ Hid (w6.ownsRow w5.heap.size 42 1 (.slice (some ⟨g2, 0, none⟩) (len + 1) (len + 1)) (len + 1) (cpy zs (len + 1) 0)) :=
                        ⟨_, rfl, (Below.refl _ _).alloc (Nat.le_refl _) _, by rw [cpy_zero, hg2]; exact ⟨by simp, .inr ⟨w5.heap.size, len + 1, C2, rfl, Nat.le_refl _, heap_alloc_new w5 _, Nat.le_refl _, by unfold maxLen; omega, by rw [HC2.out]; simp, by rw [HC2.out]; simp⟩⟩⟩
                      rw [← hw6, ← hg2]
                      have HG2 : Hid _ := hg2
                      clear hw6 hg2 HC2 hmk2
                      go_loopw [12] (fun i wx => ∃ q : Nat, q ≤ len ∧ i = .int .i64 q ∧ Hid (Below w5.heap.size w5 wx) ∧ Hid (wx.ownsRow w5.heap.size 42 1 (.slice (some ⟨g2, 0, none⟩) (len + 1) (len + 1)) (len + 1) (cpy zs (len + 1) q))) (fun i _ => len - (intOf i).toNat)
                      case atStart => exact ⟨0, by omega, rfl, HB6, HO6⟩
                      case round =>
                        obtain ⟨q, hql, rfl, HBq, HOq⟩ := hrel
                        obtain ⟨wq, hwq⟩ : ∃ x, x = wr := ⟨_, rfl⟩
                        subst hwq
                        clear HB6 HO6
                        by_cases hqlt : q < len
                        · obtain ⟨z, hz⟩ : ∃ z, z = zs.getD q 0 := ⟨_, rfl⟩
                          have hc' : wq.cell? ⟨g, q, none⟩ = some (.int .i32 z) := by
                            rw [HBq.out.cell (p := ⟨g, q, none⟩) Hg5.out.1, Hc5.out q hqlt, ← hz]
                          have hs : wq.cell? ⟨g2, q, none⟩ = some (.int .i32 0) := by
                            rw [HOq.out.cellAt q (by omega)]; exact cpy_at zs (len + 1) q (by omega)
                          have hf : wq.frozen? ⟨g2, q, none⟩ = false := HOq.out.frozenAt q
                          have hst := HOq.out.stored q (.int .i32 z)
                          rw [hz, cpy_set zs (len + 1) q (by omega), ← hz] at hst
                          have Hst : Hid _ := hst
                          have HBn : Hid (Below w5.heap.size w5 (wq.setCell ⟨g2, q, none⟩ (.int .i32 z))) := HBq.out.setCell (by rw [HG2.out]; exact Nat.le_refl _) _
                          clear hst hz
                          go_wp2
                          exact ⟨⟨q + 1, by omega, by go_num, HBn, Hst.out.1⟩, by simp [intOf]; omega⟩
                        · have hqe : len = q := by omega
                          subst hqe
                          clear hqlt hql
                          have hs : wq.cell? ⟨g2, len, none⟩ = some (.int .i32 0) := by
                            rw [HOq.out.cellAt len (by omega)]; exact cpy_at zs (len + 1) len (by omega)
                          have hf : wq.frozen? ⟨g2, len, none⟩ = false := HOq.out.frozenAt len
                          obtain ⟨w7, hw7, HB7, HO7⟩ : ∃ w7, w7 = wq.setCell ⟨g2, len, none⟩ (.int .i32 (2 * (n : Int))) ∧ Hid (Below w5.heap.size w5 w7) ∧ Hid (w7.ownsRow w5.heap.size 42 1 (.slice (some ⟨g2, 0, none⟩) (len + 1) (len + 1)) (len + 1) ((cpy zs (len + 1) len).set len (.int .i32 (2 * (n : Int))))) :=
                            ⟨_, rfl, HBq.out.setCell (by rw [HG2.out]; exact Nat.le_refl _) _, (HOq.out.stored len _).1⟩
                          obtain ⟨h5, S5, G5⟩ := HS5.out
                          have hlt2 := HO7.out.lt g2 rfl
                          have hf2 : Free p V5 w7 g2 := Free.new S5 (by rw [HG2.out]; exact Nat.le_refl _) hlt2.2
                          have hcells : ∀ i, i < len + 1 → w7.cell? ⟨g2, i, none⟩ = some (.int .i32 ((lsOf zs len ++ [2 * n]).getD i 0 : Nat)) := fun i hi => by
                            rw [HO7.out.cellAt i (by omega)]
                            exact nest_get zs len n i hi (fun h => (Hq.out i h).1)
                          have hJ := any2 len (Inv2.below HI5.out HB7.out) (by omega) g2 (len + 1) (len + 1) (lsOf zs len) (lsOf_len zs len) rfl (by omega) hf2 hcells (lsOf_lt zs len n Hq.out)
                          rw [show ((2 * (n + 1) : Nat) : Int) = 2 * (n : Int) + 2 by omega] at hJ
                          have HJ : Hid _ := hJ
                          have HF2 : Hid _ := hf2
                          have HS5' : Hid _ := S5
                          have Hw7 : Hid _ := hw7
                          clear hJ hcells hf2 hlt2 S5 G5 HS5 hw7
                          rw [Hw7.out] at HJ
                          go_wp2_with (go_at_call 7; refine Calls.mono HJ.out ?_; rintro e w8 ⟨rfl, hh⟩; have Hh8 : Hid _ := hh; clear hh; refine Hid.out ?_)
                          obtain ⟨V8, X8, h8, S8, G8, F8⟩ := Hh8.out
                          rw [← Hw7.out] at F8
                          have hn8 := newVar_ok S8 (n + 2) G8 (by omega)
                          rw [show ((n + 2 : Nat) : Int) = (n : Int) + 2 by omega] at hn8
                          have Hg8 : Hid _ := (Free.fr (Free.fr Hg5.out (Fr.of_below HB7.out)).1 F8)
                          have Hg28 : Hid _ := Free.fr HF2.out F8
                          have HB8 : Hid (Below w1.heap.size w1 w8) := HB5.out.trans (((Fr.of_below HB7.out).trans F8).below HS5'.out (by rw [HP.out]; exact Nat.le_refl _))
                          have HN8 : Hid _ := hn8
                          have HS8 : Hid _ := S8
                          clear hn8 S8 G8 F8 Hh8 HJ
                          unfold Hid
                          go_wp2_with (go_at_call 6; refine Calls.mono HN8.out ?_; rintro e w9 ⟨rfl, hh⟩; have Hh9 : Hid _ := hh; clear hh; refine Hid.out ?_)
                          obtain ⟨V9, X9, S9, F9, _⟩ := Hh9.out
                          have hg9 := Free.fr Hg8.out.1 F9
                          have hg29 := Free.fr Hg28.out.1 F9
                          have HB9 : Hid (Below w1.heap.size w1 w9) := HB8.out.trans (F9.below HS8.out (by rw [HP.out]; exact Nat.le_refl _))
                          have C1 : Hid (∀ i, i < len → w9.cell? ⟨g, i, none⟩ = some (.int .i32 (zs.getD i 0))) := fun i hi => by
                            rw [World.cell?_of_block (w := w8) (a := ⟨g, i, none⟩) hg9.2, World.cell?_of_block (w := w7) (a := ⟨g, i, none⟩) Hg8.out.2, HB7.out.cell (p := ⟨g, i, none⟩) Hg5.out.1]
                            exact Hc5.out i hi
                          have C0 : ∀ i, i < len + 1 → w9.cell? ⟨g2, i, none⟩ = ((cpy zs (len + 1) len).set len (.int .i32 (2 * (n : Int))))[i]? := fun i hi => by
                            rw [World.cell?_of_block (w := w8) (a := ⟨g2, i, none⟩) hg29.2, World.cell?_of_block (w := w7) (a := ⟨g2, i, none⟩) Hg28.out.2]
                            exact HO7.out.cellAt i (by omega)
                          have C2 : Hid (∀ i, i < len → w9.cell? ⟨g2, i, none⟩ = some (.int .i32 (zs.getD i 0))) := fun i hi => by
                            rw [C0 i (by omega), List.getElem?_set_ne (by omega)]
                            simp [cpy, hi, show i < len + 1 by omega]
                          have C3 : w9.cell? ⟨g2, len, none⟩ = some (.int .i32 (2 * (n : Int))) := by
                            rw [C0 len (by omega), List.getElem?_set_self (by rw [cpy_len]; omega)]
                          have HC3 : Hid _ := C3
                          clear C0 C3 hg9 hg29 S9 F9 Hh9 HN8 hs hf
                          unfold Hid
                          go_wp2
                          go_loopw [15] (fun i wx => ∃ q : Nat, q ≤ len ∧ i = .int .i64 q ∧ Hid (∃ m, wx = w9.drewN m)) (fun i _ => len - (intOf i).toNat)
                          case atStart => exact ⟨0, by omega, rfl, 0, rfl⟩
                          case round =>
                            obtain ⟨q, hql, rfl, Hm⟩ := hrel
                            obtain ⟨wx, hwx⟩ : ∃ x, x = wr := ⟨_, rfl⟩
                            subst hwx
                            by_cases hqlt : q < len
                            · obtain ⟨x, hx, hc, hzb, hzt⟩ := HR.out q hqlt
                              subst hx
                              obtain ⟨z, hz⟩ : ∃ z, z = zs.getD q 0 := ⟨_, rfl⟩
                              rw [← hz] at hc
                              have e1 : wx.cell? ⟨g, q, none⟩ = some (.int .i32 z) := by obtain ⟨m, hm⟩ := Hm.out; rw [hm, hz]; exact C1.out q hqlt
                              have e2 : wx.cell? ⟨g2, q, none⟩ = some (.int .i32 z) := by obtain ⟨m, hm⟩ := Hm.out; rw [hm, hz]; exact C2.out q hqlt
                              have e3 : wx.cell? (x.add q) = some (.int .i32 z) := by
                                obtain ⟨m, hm⟩ := Hm.out
                                rw [hm, ← hc]
                                exact HB9.out.cell (p := x.add q) (World.block_lt_of_cell? w1 _ hc)
                              clear hc hz
                              go_wp2_with (fail)
                              go_quiet (fail)
                              go_wp2
                              obtain ⟨m, hm⟩ := Hm.out
                              exact ⟨⟨q + 1, by omega, by go_num, m + nq, by rw [hm, World.drewN_drewN]⟩, by simp [intOf]; omega⟩
                            · have hqe : len = q := by omega
                              subst hqe
                              have e3 : wx.cell? ⟨g2, len, none⟩ = some (.int .i32 (2 * (n : Int))) := by obtain ⟨m, hm⟩ := Hm.out; rw [hm]; exact HC3.out
                              go_wp2
                              go_ret
                              obtain ⟨m, hm⟩ := Hm.out
                              exact ⟨rfl, by rw [hm]; exact HB9.out.trans (belowDrewN (Below.refl _ _) m)⟩
        · have h4' : 65536 < a0 := by omega
          clear hr
          go_enter Try.func4, Try.ntmps4
          go_wp2_with (go_at_call 8; refine Calls.mono HZ.out ?_; rintro e w1 ⟨rfl, rfl⟩)
          go_ret
          exact ⟨rfl, Below.refl _ _⟩
      · have h3' : a0 < 0 := by omega
        clear hr
        go_enter Try.func4, Try.ntmps4
        go_wp2_with (go_at_call 8; refine Calls.mono HZ.out ?_; rintro e w1 ⟨rfl, rfl⟩)
        go_ret
        exact ⟨rfl, Below.refl _ _⟩
    · have h2' : 65536 < len := by omega
      clear hr
      go_enter Try.func4, Try.ntmps4
      go_wp2_with (go_at_call 8; refine Calls.mono HZ.out ?_; rintro e w1 ⟨rfl, rfl⟩)
      go_ret
      exact ⟨rfl, Below.refl _ _⟩
  · rw [decide_eq_false h1] at hzz
    have HZ : Hid _ := hzz
    clear hzz hr
    go_enter Try.func4, Try.ntmps4
    go_wp2_with (go_at_call 8; refine Calls.mono HZ.out ?_; rintro e w1 ⟨rfl, rfl⟩)
    go_ret
    exact ⟨rfl, Below.refl _ _⟩
end
end Go.Proofs.Qxb6609294a
