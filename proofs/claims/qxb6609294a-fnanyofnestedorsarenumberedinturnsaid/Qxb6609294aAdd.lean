/- AddClause 13: its loop; what follows behind it is told by what is handed in. -/
import Derived.Test.Qxb6609294aProp
namespace Go.Proofs.Qxb6609294a
open Go.RowKit
set_option linter.unusedVariables false

/-- 'make' of literals -/
theorem mk_lits (n k : Nat) (hnk : n ≤ k) (hk : k ≤ 1000001) : ∃ C : Array Value, C = (List.replicate k (Value.int .i32 0)).toArray ∧ ∀ W : World, (Instr.makeSlice 29 (.int .i64 (n : Int)) (.int .i64 (k : Int))).run Try.prog W = .ok (.slice (some ⟨W.heap.size, 0, none⟩) n k) (W.alloc (.cells C 42)) := by
  obtain ⟨i, hi, hz, hz1, hz2⟩ := info_parts (show (Try.prog.info? 42).map (fun i => (i.zero, i.size, i.bytes)) = some (some (.int .i32 0), 1, 4) by kernel_rfl)
  refine ⟨_, rfl, fun W => ?_⟩
  have := run_make (P := Try.prog) W 29 42 i (.int .i32 0) Try.underlying29 hi hz .i64 .i64 n k (by omega) (by omega) (by rw [hz2]; omega) (by omega)
  rw [hz1] at this
  have e : madeCells (Value.cells (.int .i32 0)) ((k : Int).toNat * 1) = (List.replicate k (Value.int .i32 0)).toArray := by
    apply Array.toList_inj.1
    have : Value.cells (.int .i32 0) = #[Value.int .i32 0] := rfl
    rw [this, toList_madeCells_one]
    simp
  rw [e] at this
  simpa using this

/-- the literals of a clause that are unset -/
def kept (vs : Nat → Int) (ls : List Nat) : List Value := (ls.filter (fun l => lv l (vs (l / 2)) == 0)).map (fun (l : Nat) => Value.int .i32 (l : Int))

def IsInt (e : Ending) : Prop := ∃ n, e = .returned (.int .i64 n)

section
variable {w : World} {p : Nat} {V : Nat → Value} {X : Nat → List Value} {h : Int}

set_option maxHeartbeats 2000000 in
set_option maxRecDepth 100000 in
theorem addClause_cps (R : World → Prop) (S : Sol w p V X h false) (n : Nat) (hn : n ≤ 100000) (l2 : (X 2).length = n) (b k cap : Nat) (lits : List Nat) (vs : Nat → Int) (hk : lits.length = k) (hk0 : 0 < k) (hk1 : k ≤ 100000)
    (hcell : ∀ i, i < k → w.cell? ⟨b, i, none⟩ = some (.int .i32 (lits.getD i 0 : Nat))) (hb : b < w.heap.size)
    (hlt : ∀ l ∈ lits, l < 2 * n)
    (hvs : ∀ l ∈ lits, (vs (l / 2) = 0 ∨ vs (l / 2) = -1) ∧ (X 2)[l / 2]? = some (.int .i8 (vs (l / 2))))
    (hT : (∃ l ∈ lits, lv l (vs (l / 2)) = 1) → ∀ w', Below w.heap.size w w' → R w')
    (hU : (∀ l ∈ lits, lv l (vs (l / 2)) ≠ 1) → ∀ wr gc cc, Below w.heap.size w wr → wr.ownsRow w.heap.size 42 1 (.slice (some ⟨gc, 0, none⟩) (kept vs lits).length cc) (kept vs lits).length (kept vs lits) →
      (2 ≤ (kept vs lits).length ∧ Calls Try.prog 19 #[.pointer (some ⟨p, 0, none⟩), .slice (some ⟨gc, 0, none⟩) (kept vs lits).length cc] wr fun e w' => IsInt e ∧ R w') ∨
      ((kept vs lits).length = 1 ∧ ∃ x : Nat, x ≤ 1000000 ∧ kept vs lits = [.int .i32 x] ∧ Calls Try.prog 17 #[.pointer (some ⟨p, 0, none⟩), .int .i32 x, .int .i64 (-1)] wr fun e w' => e = .returned (.tuple #[]) ∧
        Calls Try.prog 18 #[.pointer (some ⟨p, 0, none⟩)] w' fun e w'' => e = .returned (.int .i64 (-1)) ∧ w''.cell? ⟨p, 15, none⟩ = some (.bool false) ∧ w''.frozen? ⟨p, 15, none⟩ = false ∧ R (w''.setCell ⟨p, 15, none⟩ (.bool false)))) :
    Calls Try.prog 13 #[.pointer (some ⟨p, 0, none⟩), .slice (some ⟨b, 0, none⟩) k cap] w fun e w' => e = .returned (.tuple #[]) ∧ R w' := by
  have k15 : w.cell? ⟨p, 15, none⟩ = some (.bool false) := S.cell 15
  obtain ⟨C, hC, hmk⟩ := mk_lits 0 k (by omega) (by omega)
  have hmk' : ∀ W : World, (Instr.makeSlice 29 (.int .i64 0) (.int .i64 (k : Int))).run Try.prog W = .ok (.slice (some ⟨W.heap.size, 0, none⟩) 0 k) (W.alloc (.cells C 42)) := hmk
  have HS : Hid _ := S
  have HT : Hid _ := hT
  have HU : Hid _ := hU
  have HC : Hid _ := hcell
  have HLT : Hid _ := hlt
  have HVS : Hid _ := hvs
  have HCC : Hid _ := hC
  clear S hT hU hcell hlt hvs hC hmk
  go_enter Try.func13, Try.ntmps13
  go_wp2
  go_loopw [4, 16] (fun c i wr => ∃ m : Nat, m ≤ k ∧ i = .int .i64 m ∧ Below w.heap.size w wr ∧ ∃ (gc cc q : Nat), c = .slice (some ⟨gc, 0, none⟩) q cc ∧ q = (kept vs (lits.take m)).length ∧ Hid (wr.ownsRow w.heap.size 42 1 (.slice (some ⟨gc, 0, none⟩) q cc) q (kept vs (lits.take m))) ∧ Hid (∀ l ∈ lits.take m, lv l (vs (l / 2)) ≠ 1)) (fun _ i _ => k - (intOf i).toNat)
  case atStart =>
    refine ⟨0, by omega, rfl, (Below.refl _ _).alloc (Nat.le_refl _) _, w.heap.size, k, 0, rfl, by simp [kept], ?_, by simp [Hid]⟩
    exact World.ownsRow_made w C k (Nat.le_refl _) (by unfold maxLen; omega) (by rw [HCC.out]; simp)
  case round =>
    obtain ⟨m, hm, rfl, hW, gc, cc, q, rfl, hq, Ho, Hn⟩ := hrel
    rename_i wr
    have Sr := HS.out.below hW
    by_cases hmk : m < k
    · obtain ⟨l, hl⟩ : ∃ l, l = lits.getD m 0 := ⟨_, rfl⟩
      have hlm : lits[m]? = some l := by rw [hl, List.getD_eq_getElem?_getD, List.getElem?_eq_getElem (by omega)]; rfl
      have hmem : l ∈ lits := List.mem_of_getElem? hlm
      have hr : wr.cell? ⟨b, m, none⟩ = some (.int .i32 l) := by
        rw [hW.cell (p := ⟨b, m, none⟩) hb, HC.out m hmk, ← hl]
      have hlt := HLT.out l hmem
      obtain ⟨hv01, hX2⟩ := HVS.out l hmem
      obtain ⟨g2, c2, hV2, _, _⟩ := Sr.form1 2 (by omega)
      rw [l2] at hV2
      have HJ : Hid _ := valueOf_at (p := p) g2 n c2 l (l / 2) (vs (l / 2)) wr (by rw [← hV2]; exact Sr.cell 2) (by omega) rfl (by omega) hv01 (by rw [Sr.rowCell hV2 l2 _ (by omega)]; exact hX2)
      have htake : lits.take (m + 1) = lits.take m ++ [l] := by rw [List.take_add_one, hlm]; rfl
      have hcase : lv l (vs (l / 2)) = 1 ∨ lv l (vs (l / 2)) = 0 ∨ lv l (vs (l / 2)) = -1 := by
        unfold lv; rcases hv01 with e | e <;> rw [e] <;> split <;> omega
      have HM : Hid (l ∈ lits ∧ l < 2 * n ∧ lits.take (m + 1) = lits.take m ++ [l]) := ⟨hmem, hlt, htake⟩
      have HSr : Hid _ := Sr
      have HW : Hid _ := hW
      have HQ : Hid _ := hq
      have HL : Hid _ := hl
      clear hlm hmem hlt hv01 hX2 hV2 htake Sr hl hq
      rcases hcase with hc1 | hc0 | hcn
      · rw [hc1] at HJ
        have HC1 : Hid _ := hc1
        clear hc1
        go_wp2_with (go_at_call 16; refine Calls.mono HJ.out ?_; rintro e w3 ⟨rfl, mm, rfl⟩)
        (try simp only [Exit.inBlock, Exit.then]); refine bodyPost_ret (results_none rfl _ _ _) rfl ?_
        exact ⟨rfl, HT.out ⟨l, HM.out.1, HC1.out⟩ _ (HW.out.trans (belowDrewN (Below.refl _ _) mm))⟩
      · rw [hc0] at HJ
        have HC0 : Hid _ := hc0
        clear hc0
        go_wp2_with (go_at_call 16; refine Calls.mono HJ.out ?_; rintro e w3 ⟨rfl, hw3⟩; have Hw3 : Hid _ := hw3; clear hw3; refine Hid.out ?_)
        obtain ⟨HB3, Ho3⟩ : Hid (Below w.heap.size w w3) ∧ Hid (w3.ownsRow w.heap.size 42 1 (.slice (some ⟨gc, 0, none⟩) q cc) q (kept vs (lits.take m))) := by
          obtain ⟨mm, rfl⟩ := Hw3.out; exact ⟨HW.out.trans (belowDrewN (Below.refl _ _) mm), Ho.out⟩
        clear Hw3 hr hW
        unfold Hid
        obtain ⟨i0, hi, hz0, hz1, hz2⟩ := info_parts (show (Try.prog.info? 42).map (fun i => (i.zero, i.size, i.bytes)) = some (some (.int .i32 0), 1, 4) by kernel_rfl)
        have hql : q ≤ k := by rw [HQ.out]; unfold kept; rw [List.length_map]; exact Nat.le_trans (List.length_filter_le _ _) (by rw [List.length_take]; omega)
        go_wp2_with (at_builtin; refine wpList_append_lies _ rfl (.tmp 27) (.tmp 29) 29 rfl w.heap.size 42 i0 (.int .i32 0) 1 4 Try.underlying29 hi hz0 hz1 hz2 rfl (by decide) _ q (kept vs (lits.take m)) rfl (Ho3.out.alloc _) ⟨w3.heap.size, 0, none⟩ 1 1 [.int .i32 l] rfl rfl ?c1 ?c2 (by decide) (by unfold maxLen; omega) (by omega) ?hbs w3.heap.size.succ (by simp) ?kont)
        case c1 => exact World.news_of_block (heap_alloc_new w3 _)
        case c2 => intro u hu; simp at hu; subst hu; rfl
        case hbs => have := HB3.out.size; simp; omega
        case kont =>
          intro g5 c5 w5 hown hgrow hat hlt
          have HB5 : Hid (Below w.heap.size w w5) := (HB3.out.alloc HB3.out.size _).grown hgrow (by have := HB3.out.size; simp; omega) (fun k' e => (Ho3.out.lt k' e).1)
          have HO5 : Hid _ := hown
          clear hown hgrow hat hlt
          go_wp2
          refine ⟨⟨m + 1, by omega, by go_num, HB5.out, g5, c5, q + 1, rfl, ?_, ?_, ?_⟩, by simp [intOf]; omega⟩
          · rw [HM.out.2.2]; simp [kept, HC0.out, HQ.out]
          · rw [HM.out.2.2]
            have e : kept vs (lits.take m ++ [l]) = kept vs (lits.take m) ++ [.int .i32 l] := by simp [kept, HC0.out]
            rw [e]; exact HO5.out
          · rw [HM.out.2.2]
            intro l' hl'
            rcases List.mem_append.1 hl' with h' | h'
            · exact Hn.out l' h'
            · rw [List.mem_singleton] at h'; subst h'; rw [HC0.out]; decide
      · rw [hcn] at HJ
        have HCN : Hid _ := hcn
        clear hcn
        go_wp2_with (go_at_call 16; refine Calls.mono HJ.out ?_; rintro e w3 ⟨rfl, mm, rfl⟩)
        refine ⟨⟨m + 1, by omega, by go_num, HW.out.trans (belowDrewN (Below.refl _ _) mm), gc, cc, q, rfl, ?_, ?_, ?_⟩, by simp [intOf]; omega⟩
        · rw [HM.out.2.2]; simp [kept, HCN.out, HQ.out]
        · rw [HM.out.2.2]
          have e : kept vs (lits.take m ++ [l]) = kept vs (lits.take m) := by simp [kept, HCN.out]
          rw [e]; exact Ho.out
        · rw [HM.out.2.2]
          intro l' hl'
          rcases List.mem_append.1 hl' with h' | h'
          · exact Hn.out l' h'
          · rw [List.mem_singleton] at h'; subst h'; rw [HCN.out]; decide
    · have hmk' : m = k := by omega
      have htk : lits.take m = lits := by rw [hmk', ← hk]; exact List.take_length
      rw [htk] at Ho Hn hq
      have hU := HU.out Hn.out wr gc cc hW (by rw [← hq]; exact Ho.out)
      rw [← hq] at hU
      have HSr : Hid _ := Sr
      have HQ : Hid _ := hq
      clear hq htk Hn Sr
      rcases hU with ⟨h2, hJ⟩ | ⟨h1, x, hx, hkx, hJ⟩
      · have HJ : Hid _ := hJ
        clear hJ
        have n0 : ¬ (q : Int) = 0 := by omega
        have n1 : ¬ (q : Int) = 1 := by omega
        go_wp2_with (go_at_call 19; refine Calls.mono HJ.out ?_; rintro e w3 ⟨⟨nn, rfl⟩, hR⟩)
        go_end0
        exact ⟨rfl, hR⟩
      · have HJ : Hid _ := hJ
        have hc0 : wr.cell? ⟨gc, 0, none⟩ = some (.int .i32 x) := by
          rw [Ho.out.cellAt 0 (by omega), hkx]; rfl
        have n1 : (q : Int) = 1 := by omega
        have HKX : Hid _ := hkx
        clear hJ hkx
        subst h1
        go_wp2_with (first | (go_at_call 17; refine Calls.mono HJ.out ?_; rintro e w3 ⟨rfl, hJ2⟩; have HJ2 : Hid _ := hJ2; clear hJ2) | (go_at_call 18; refine Calls.mono HJ2.out ?_; rintro e w4 ⟨rfl, k154, f154, hR⟩; have HR : Hid _ := hR; clear hR))
        go_end0
        exact ⟨rfl, HR.out⟩
end
end Go.Proofs.Qxb6609294a
