/- The law FnAnyOfMintsOneFreshVariable, walked. -/
import Derived.Test.Qxb6609294aZz
namespace Go.Proofs.Qxb6609294a
open Go.RowKit
set_option linter.unusedVariables false

/-- the first q of len literals copied -/
def cpy (zs : List Int) (len q : Nat) : List Value := (List.range len).map fun j => if j < q then Value.int .i32 (zs.getD j 0) else Value.int .i32 0
theorem cpy_len (zs : List Int) (len q : Nat) : (cpy zs len q).length = len := by simp [cpy]
theorem cpy_zero (zs : List Int) (len : Nat) : cpy zs len 0 = List.replicate len (.int .i32 0) := by
  apply List.ext_getElem?
  intro i
  simp only [cpy, List.getElem?_map, List.getElem?_replicate, Nat.not_lt_zero, if_false]
  rcases Nat.lt_or_ge i len with h | h
  · simp [h]
  · simp [Nat.not_lt.2 h]
theorem cpy_at (zs : List Int) (len q : Nat) (h : q < len) : (cpy zs len q)[q]? = some (.int .i32 0) := by simp [cpy, h]
theorem cpy_all (zs : List Int) (len i : Nat) (h : i < len) : (cpy zs len len)[i]? = some (.int .i32 (zs.getD i 0)) := by simp [cpy, h]
theorem cpy_set (zs : List Int) (len q : Nat) (h : q < len) : (cpy zs len q).set q (.int .i32 (zs.getD q 0)) = cpy zs len (q + 1) := by
  apply List.ext_getElem?
  intro i
  by_cases hi : i = q
  · subst hi
    rw [List.getElem?_set_self (by rw [cpy_len]; exact h)]
    simp [cpy, h]
  · rw [List.getElem?_set_ne (fun e => hi e.symm)]
    simp only [cpy, List.getElem?_map]
    rcases Nat.lt_or_ge i len with h' | h'
    · simp only [List.getElem?_range h', Option.map_some]
      by_cases hq : i < q
      · rw [if_pos hq, if_pos (by omega)]
      · rw [if_neg hq, if_neg (by omega)]
    · rw [List.getElem?_eq_none (by simpa using h')]; rfl
def lsOf (zs : List Int) (len : Nat) : List Nat := (List.range len).map fun j => (zs.getD j 0).toNat
theorem lsOf_len (zs : List Int) (len : Nat) : (lsOf zs len).length = len := by simp [lsOf]
theorem lsOf_get (zs : List Int) (len i : Nat) (h : i < len) (h0 : 0 ≤ zs.getD i 0) : some (Value.int .i32 (zs.getD i 0)) = some (.int .i32 ((lsOf zs len).getD i 0 : Nat)) := by
  have : (lsOf zs len).getD i 0 = (zs.getD i 0).toNat := by rw [List.getD_eq_getElem?_getD]; simp [lsOf, h]
  rw [this, Int.toNat_of_nonneg h0]
theorem lsOf_lt (zs : List Int) (len n : Nat) (H : ∀ q, q < len → 0 ≤ zs.getD q 0 ∧ zs.getD q 0 < 2 * (n : Int)) : ∀ l ∈ lsOf zs len, l < 2 * n := by
  intro l hl
  simp only [lsOf, List.mem_map, List.mem_range] at hl
  obtain ⟨j, hj, rfl⟩ := hl
  have := H j hj
  omega

theorem Inv0.below {w w' : World} {p n : Nat} {V : Nat → Value} {X : Nat → List Value} (I : Inv0 w p V X n) (h : Below w.heap.size w w') : Inv0 w' p V X n := ⟨I.sol.below h, I.gd, I.zero, I.wat, I.cls, I.trail, I.lev, I.ent⟩
theorem Inv2.solgd {w : World} {p n k : Nat} {V : Nat → Value} {X : Nat → List Value} (I : Inv2 w p V X n k) : ∃ h, Sol w p V X h false ∧ Gd X (n + 1) := by
  rcases I with ⟨_, I⟩ | ⟨_, I⟩
  · exact ⟨_, I.sol, I.gd⟩
  · exact ⟨_, I.sol, I.gd⟩

section
variable {w : World}

/-- a fresh solver -/
theorem Inv0.new (w : World) : Inv0 (w.alloc (.cells (solCells (fun _ => nilS) 0 false).toArray 39)) w.heap.size (fun _ => nilS) (fun _ => []) 0 := by
  refine ⟨⟨heap_alloc_new w _, ⟨fun k => World.ownsRow_nil _ _ _ _, fun k l g _ h => by cases h⟩, fun i => rfl⟩, ⟨rfl, rfl, rfl, rfl, rfl, rfl, rfl, rfl⟩, rfl, rfl, rfl, rfl, rfl, fun _ => rfl⟩

theorem Inv0.next {p n : Nat} {V : Nat → Value} {X : Nat → List Value} (I : Inv0 w p V X n) (hn : n ≤ 90000) :
    Calls Try.prog 6 #[.pointer (some ⟨p, 0, none⟩)] w fun e w' => e = .returned (.int .i32 n) ∧ ∃ V' X', Inv0 w' p V' X' (n + 1) ∧ Fr p V w V' w' := by
  refine (newVar_ok I.sol n I.gd hn).mono ?_
  rintro e w' ⟨rfl, V', X', S', F', G', y2, y1, y5, y0, y6, yw⟩
  refine ⟨rfl, V', X', ⟨S', G', by rw [y2, I.zero, List.replicate_succ'], ?_, by rw [y0]; exact I.cls, by rw [y5]; exact I.trail, by rw [y6]; exact I.lev, fun i => by rw [yw i]; exact I.ent i⟩, F'⟩
  rw [y1, I.wat, show 2 * (n + 1) = 2 * n + 1 + 1 by omega, List.replicate_succ', List.replicate_succ', List.append_assoc]
  rfl

set_option maxHeartbeats 4000000 in
set_option maxRecDepth 100000 in
theorem law3 (a0 : Int) (a1 : Option Addr) (len cap : Nat) (zs : List Int) (w : World) (hl : len ≤ maxLen) (w0 : -9223372036854775808 ≤ a0 ∧ a0 ≤ 9223372036854775807) (hr : ∀ i, i < len → ∃ x, a1 = some x ∧ w.cell? (x.add i) = some (.int .i32 (zs.getD i 0)) ∧ -2147483648 ≤ zs.getD i 0 ∧ zs.getD i 0 ≤ 2147483647) :
    Calls Try.prog 3 #[.int .i64 a0, .slice a1 len cap] w fun e w' => e = .returned (.bool true) ∧ Below w.heap.size w w' := by
  have hzz := zzBytes5 a0 a1 len cap w hl
  unfold maxLen at hl
  by_cases h1 : len ≤ 1048576
  · rw [decide_eq_true h1] at hzz
    have HZ : Hid _ := hzz
    clear hzz
    by_cases h2 : len ≤ 65536
    · by_cases h3 : 0 ≤ a0
      · by_cases h4 : a0 ≤ 65536
        · obtain ⟨n, rfl⟩ := Int.eq_ofNat_of_zero_le h3
          have hn : n ≤ 65536 := by omega
          have HR : Hid _ := hr
          clear h3 h4 w0 hr h1
          go_enter Try.func3, Try.ntmps3
          go_wp2_with (go_at_call 5; refine Calls.mono HZ.out ?_; rintro e w1 ⟨rfl, rfl⟩)
          go_loop [5] (fun i => ∃ m : Nat, m ≤ len ∧ i = .int .i64 m ∧ Hid (∀ q, q < m → 0 ≤ zs.getD q 0 ∧ zs.getD q 0 < 2 * (n : Int))) (fun i => len - (intOf i).toNat)
          case atStart => exact ⟨0, by omega, rfl, fun q hq => by omega⟩
          case round =>
            obtain ⟨m, hm, rfl, Hq⟩ := hrel
            by_cases hml : m < len
            · obtain ⟨x, hx, hc, hzb, hzt⟩ := HR.out m hml
              subst hx
              obtain ⟨z, hz⟩ : ∃ z, z = zs.getD m 0 := ⟨_, rfl⟩
              rw [← hz] at hc hzb hzt
              have HZm : Hid _ := hz
              clear hz
              by_cases z0 : 0 ≤ z
              · by_cases z1 : z < 2 * (n : Int)
                · have Hq' : Hid (∀ q, q < m + 1 → 0 ≤ zs.getD q 0 ∧ zs.getD q 0 < 2 * (n : Int)) := fun q hq => by
                    by_cases hqm : q = m
                    · subst hqm; rw [← HZm.out]; exact ⟨z0, z1⟩
                    · exact Hq.out q (by omega)
                  go_wp2
                  all_goals exact ⟨⟨m + 1, by omega, by go_num, Hq'⟩, by simp [intOf]; omega⟩
                · have z1' : 2 * (n : Int) ≤ z := by omega
                  clear z1
                  go_wp2
                  go_ret
                  exact ⟨rfl, Below.refl _ _⟩
              · have z0' : z < 0 := by omega
                clear z0
                go_wp2
                go_ret
                exact ⟨rfl, Below.refl _ _⟩
            · have hml' : len = m := by omega
              subst hml'
              clear hml hm
              go_wp2
              obtain ⟨W0, hW0, HB0, HI0⟩ : ∃ W0, W0 = w1.alloc (.cells (solCells (fun _ => nilS) 0 false).toArray 39) ∧ Hid (Below w1.heap.size w1 W0) ∧ Hid (∃ V X, Inv0 W0 w1.heap.size V X 0) := ⟨_, rfl, (Below.refl _ _).alloc (Nat.le_refl _) _, _, _, Inv0.new w1⟩
              obtain ⟨p, hp⟩ : ∃ p, p = w1.heap.size := ⟨_, rfl⟩
              have hW0' : w1.alloc (.cells #[.slice none 0 0, .slice none 0 0, .slice none 0 0, .slice none 0 0, .slice none 0 0, .slice none 0 0, .slice none 0 0, .int .i64 0, .slice none 0 0, .slice none 0 0, .slice none 0 0, .float .f64 0, .slice none 0 0, .slice none 0 0, .map none, .bool false] 39) = W0 := hW0.symm
              rw [hW0']
              rw [← hp] at HI0 ⊢
              clear hW0 hW0'
              have HP : Hid _ := hp
              clear hp
              go_loopw [7] (fun i wr => ∃ q : Nat, q ≤ n ∧ i = .int .i64 q ∧ Hid (Below w1.heap.size w1 wr) ∧ Hid (∃ V X, Inv0 wr p V X q)) (fun i _ => n - (intOf i).toNat)
              case atStart => exact ⟨0, by omega, rfl, HB0, HI0⟩
              case round =>
                obtain ⟨q, hqn, rfl, HBr, HIr⟩ := hrel
                clear HB0 HI0
                by_cases hql : q < n
                · obtain ⟨V, X, I⟩ := HIr.out
                  have HJ : Hid _ := I.next (by omega)
                  have HI : Hid _ := I
                  clear I
                  go_wp2_with (go_at_call 6; refine Calls.mono HJ.out ?_; rintro e w3 ⟨rfl, hh⟩; have Hh : Hid _ := hh; clear hh)
                  obtain ⟨V', X', I', F'⟩ := Hh.out
                  exact ⟨⟨q + 1, by omega, by go_num, HBr.out.trans (F'.below HI.out.sol (by rw [HP.out]; exact Nat.le_refl _)), V', X', I'⟩, by simp [intOf]; omega⟩
                · have hql' : n = q := by omega
                  subst hql'
                  clear hql hqn
                  obtain ⟨wL, hwL⟩ : ∃ x, x = wr := ⟨_, rfl⟩
                  subst hwL
                  obtain ⟨C, hC, hmk⟩ := mk_lits len len (Nat.le_refl _) (by omega)
                  have HC : Hid _ := hC
                  clear hC
                  go_wp2
                  obtain ⟨V, X, I⟩ := HIr.out
                  have HI : Hid _ := I
                  clear I HIr hmk
                  obtain ⟨g, hg⟩ : ∃ g, g = wL.heap.size := ⟨_, rfl⟩
                  have hgr : w1.heap.size ≤ g := by rw [hg]; exact HBr.out.size
                  obtain ⟨w4, hw4, HB4, HO4⟩ : ∃ w4, w4 = wL.alloc (.cells C 42) ∧ Hid (Below wL.heap.size wL w4) ∧ Hid (w4.ownsRow wL.heap.size 42 1 (.slice (some ⟨g, 0, none⟩) len len) len (cpy zs len 0)) :=
                    ⟨_, rfl, (Below.refl _ _).alloc (Nat.le_refl _) _, by rw [cpy_zero, hg]; exact ⟨by simp, .inr ⟨wL.heap.size, len, C, rfl, Nat.le_refl _, heap_alloc_new wL _, Nat.le_refl _, by unfold maxLen; omega, by rw [HC.out]; simp, by rw [HC.out]; simp⟩⟩⟩
                  rw [← hw4, ← hg]
                  have HG : Hid _ := hg
                  clear hw4 hg HC
                  go_loopw [9] (fun i wq => ∃ q : Nat, q ≤ len ∧ i = .int .i64 q ∧ Hid (Below wL.heap.size wL wq) ∧ Hid (wq.ownsRow wL.heap.size 42 1 (.slice (some ⟨g, 0, none⟩) len len) len (cpy zs len q))) (fun i _ => len - (intOf i).toNat)
                  case atStart => exact ⟨0, by omega, rfl, HB4, HO4⟩
                  case round =>
                    obtain ⟨q, hql, rfl, HBq, HOq⟩ := hrel
                    obtain ⟨wq, hwq⟩ : ∃ x, x = wr := ⟨_, rfl⟩
                    subst hwq
                    clear HB4 HO4
                    by_cases hqlt : q < len
                    · obtain ⟨x, hx, hc, hzb, hzt⟩ := HR.out q hqlt
                      subst hx
                      obtain ⟨z, hz⟩ : ∃ z, z = zs.getD q 0 := ⟨_, rfl⟩
                      rw [← hz] at hc
                      have hc' : wq.cell? (x.add q) = some (.int .i32 z) := by
                        rw [← hc, HBq.out.cell (p := x.add q) (Nat.lt_of_lt_of_le (World.block_lt_of_cell? w1 _ hc) HBr.out.size), HBr.out.cell (p := x.add q) (World.block_lt_of_cell? w1 _ hc)]
                      have hs : wq.cell? ⟨g, q, none⟩ = some (.int .i32 0) := by
                        rw [HOq.out.cellAt q (by omega)]; exact cpy_at zs len q hqlt
                      have hf : wq.frozen? ⟨g, q, none⟩ = false := HOq.out.frozenAt q
                      have hst := HOq.out.stored q (.int .i32 z)
                      rw [hz, cpy_set zs len q hqlt, ← hz] at hst
                      have Hst : Hid _ := hst
                      have HBn : Hid (Below wL.heap.size wL (wq.setCell ⟨g, q, none⟩ (.int .i32 z))) := HBq.out.setCell (by rw [HG.out]; exact Nat.le_refl _) _
                      clear hst hc hz
                      go_wp2
                      exact ⟨⟨q + 1, by omega, by go_num, HBn, Hst.out.1⟩, by simp [intOf]; omega⟩
                    · have hqe : len = q := by omega
                      subst hqe
                      clear hqlt hql
                      have hIq := HI.out.below HBq.out
                      have hFq : Fr p V wL V wq := Fr.of_below HBq.out
                      have hown := HOq.out
                      have hlt := hown.lt g rfl
                      have hcells : ∀ i, i < len → wq.cell? ⟨g, i, none⟩ = some (.int .i32 ((lsOf zs len).getD i 0 : Nat)) := fun i hi => by
                        rw [hown.cellAt i (by omega), cpy_all zs len i hi, lsOf_get zs len i hi (Hq.out i hi).1]
                      have hJ := any1 hIq (by omega) g len len (lsOf zs len) (lsOf_len zs len) (by omega) (Free.new HI.out.sol (by rw [HG.out]; exact Nat.le_refl _) hlt.2) hcells (lsOf_lt zs len n Hq.out)
                      rw [show ((2 * n : Nat) : Int) = 2 * (n : Int) by omega] at hJ
                      have HJ : Hid _ := hJ
                      have HIq : Hid _ := hIq
                      have HFq : Hid _ := hFq
                      clear hIq hFq hown hlt hcells hJ
                      go_wp2_with (first | (go_at_call 7; refine Calls.mono HJ.out ?_; rintro e w5 ⟨rfl, hh⟩; obtain ⟨V5, X5, I5, F5⟩ := hh; obtain ⟨h5, S5, G5⟩ := I5.solgd; have HN := newVar_ok S5 (n + 1) G5 (by omega); rw [show ((n + 1 : Nat) : Int) = (n : Int) + 1 by omega] at HN; have HNv : Hid _ := HN; have HB5 : Hid _ := HBr.out.trans ((HFq.out.trans F5).below HI.out.sol (by rw [HP.out]; exact Nat.le_refl _)); have HS5 : Hid _ := S5; clear HN I5 F5 S5 G5) | (go_at_call 6; refine Calls.mono HNv.out ?_; rintro e w6 ⟨rfl, hh⟩; have Hh : Hid _ := hh; clear hh))
                      go_ret
                      obtain ⟨V6, X6, S6, F6, _⟩ := Hh.out
                      exact ⟨rfl, HB5.out.trans (F6.below HS5.out (by rw [HP.out]; exact Nat.le_refl _))⟩
        · have h4' : 65536 < a0 := by omega
          clear hr
          go_enter Try.func3, Try.ntmps3
          go_wp2_with (go_at_call 5; refine Calls.mono HZ.out ?_; rintro e w1 ⟨rfl, rfl⟩)
          go_ret
          exact ⟨rfl, Below.refl _ _⟩
      · have h3' : a0 < 0 := by omega
        clear hr
        go_enter Try.func3, Try.ntmps3
        go_wp2_with (go_at_call 5; refine Calls.mono HZ.out ?_; rintro e w1 ⟨rfl, rfl⟩)
        go_ret
        exact ⟨rfl, Below.refl _ _⟩
    · have h2' : 65536 < len := by omega
      clear hr
      go_enter Try.func3, Try.ntmps3
      go_wp2_with (go_at_call 5; refine Calls.mono HZ.out ?_; rintro e w1 ⟨rfl, rfl⟩)
      go_ret
      exact ⟨rfl, Below.refl _ _⟩
  · rw [decide_eq_false h1] at hzz
    have HZ : Hid _ := hzz
    clear hzz hr
    go_enter Try.func3, Try.ntmps3
    go_wp2_with (go_at_call 5; refine Calls.mono HZ.out ?_; rintro e w1 ⟨rfl, rfl⟩)
    go_ret
    exact ⟨rfl, Below.refl _ _⟩
end
end Go.Proofs.Qxb6609294a
