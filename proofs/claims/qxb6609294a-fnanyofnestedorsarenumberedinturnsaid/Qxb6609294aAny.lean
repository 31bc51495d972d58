/- anyOf 10: its road; what AddClause does is told by what is handed in. -/
import Derived.Test.Qxb6609294aAdd
namespace Go.Proofs.Qxb6609294a
open Go.RowKit
set_option linter.unusedVariables false

section
variable {w : World} {p : Nat} {V : Nat → Value} {X : Nat → List Value} {h : Int} {f : Bool}

set_option maxHeartbeats 2000000 in
set_option maxRecDepth 100000 in
theorem anyOf_cps (J : Nat → World → Prop) (S : Sol w p V X h f) (n : Nat) (G : Gd X n) (hn : n ≤ 90000) (hb b k cap : Nat) (ls : List Nat) (hk : ls.length = k) (hk1 : k ≤ 90000) (hhb : Free p V w hb) (chb : w.cell? ⟨hb, 0, none⟩ = some (.pointer (some ⟨p, 0, none⟩)))
    (hbb : Free p V w b) (hcell : ∀ i, i < k → w.cell? ⟨b, i, none⟩ = some (.int .i32 (ls.getD i 0 : Nat))) (hls : ∀ l ∈ ls, l ≤ 300000)
    (H0 : ∀ w1 V1 X1, Sol w1 p V1 X1 h f → Fr p V w V1 w1 → Gd X1 (n + 1) → X1 2 = X 2 ++ [.int .i8 0] → X1 1 = X 1 ++ [nilS, nilS] → X1 5 = X 5 → X1 0 = X 0 → X1 6 = X 6 → (∀ i, X1 (16 + i) = X (16 + i)) →
      ∀ w2 b2 c2, Below w1.heap.size w1 w2 → w1.heap.size ≤ b2 → b2 < w2.heap.size → (∀ i, i < k + 1 → w2.cell? ⟨b2, i, none⟩ = some (.int .i32 (((2 * n + 1) :: ls).getD i 0 : Nat))) →
      Calls Try.prog 13 #[.pointer (some ⟨p, 0, none⟩), .slice (some ⟨b2, 0, none⟩) (k + 1) c2] w2 fun e w' => e = .returned (.tuple #[]) ∧ J 0 w')
    (H1 : ∀ i wr, i < k → J i wr → ∀ w2 b2, Below wr.heap.size wr w2 → wr.heap.size ≤ b2 → b2 < w2.heap.size → w2.cell? ⟨b2, 0, none⟩ = some (.int .i32 (2 * n : Nat)) → w2.cell? ⟨b2, 1, none⟩ = some (.int .i32 (lnot (ls.getD i 0 : Nat))) →
      Calls Try.prog 13 #[.pointer (some ⟨p, 0, none⟩), .slice (some ⟨b2, 0, none⟩) 2 2] w2 fun e w' => e = .returned (.tuple #[]) ∧ J (i + 1) w')
    (HJ : ∀ i wr, J i wr → wr.heap[hb]? = w.heap[hb]? ∧ wr.heap[b]? = w.heap[b]?) :
    Calls Try.prog 10 #[.pointer (some ⟨hb, 0, none⟩), .slice (some ⟨b, 0, none⟩) k cap] w fun e w' => e = .returned (.int .i32 (2 * n : Nat)) ∧ J k w' := by
  obtain ⟨t, ht⟩ : ∃ t : Nat, t = 2 * n := ⟨_, rfl⟩
  obtain ⟨t1, ht1⟩ : ∃ t1 : Nat, t1 = 2 * n + 1 := ⟨_, rfl⟩
  have hT : ∀ w, Calls Try.prog 12 #[.int .i32 n] w fun e w' => e = .returned (.int .i32 t) ∧ w' = w := fun w => by
    have := fnTrue n w (by omega) (by omega)
    rw [show (2 * (n : Int)) = (t : Int) by omega] at this
    exact this
  have hNt : ∀ w, Calls Try.prog 14 #[.int .i32 t] w fun e w' => e = .returned (.int .i32 t1) ∧ w' = w := fun w => by
    have := fnNot t w (by omega) (by omega)
    rw [show lnot (t : Int) = (t1 : Int) by rw [show (t : Int) = 2 * (n : Int) by omega, lnot_two]; omega] at this
    exact this
  have hNew := newVar_ok S n G hn
  rw [← ht] at H1 ⊢
  rw [← ht1] at H0
  have HT : Hid _ := hT
  have HNt : Hid _ := hNt
  have HNew : Hid _ := hNew
  have Hh0 : Hid _ := H0
  have Hh1 : Hid _ := H1
  have HHJ : Hid _ := HJ
  have HC : Hid _ := hcell
  have HLS : Hid _ := hls
  have Hhb : Hid _ := hhb
  have Hbb : Hid _ := hbb
  have Ht : Hid (t = 2 * n ∧ t1 = 2 * n + 1) := ⟨ht, ht1⟩
  have HS : Hid _ := S
  clear hT hNt hNew H0 H1 HJ hcell hls hhb hbb ht ht1 S
  go_enter Try.func10, Try.ntmps10
  go_wp2_with (first | (go_at_call 6; refine Calls.mono HNew.out ?_; rintro e w1 ⟨rfl, h1⟩; have HN1 : Hid _ := h1; clear h1) | (go_at_call 12; refine (HT.out _).mono ?_; rintro e w2 ⟨rfl, rfl⟩))
  rename_i K hK
  have HK : Hid _ := hK
  clear hK
  obtain ⟨V1, X1, S1, F1, G1, y2, y1, y5, y0, y6, yw⟩ := HN1.out
  have bhb := Free.fr Hhb.out F1
  have bb := Free.fr Hbb.out F1
  have zh : ∀ z : Keep (fun c => c = hb) w2, z.to.cell? ⟨hb, 0, none⟩ = some (.pointer (some ⟨p, 0, none⟩)) := fun z => by
    rw [z.cell hb 0 rfl, World.cell?_of_block (a := ⟨hb, 0, none⟩) bhb.2]; exact chb
  have hnz := keep_ne (fun c => c = hb) w2
  have HS1 : Hid _ := S1
  have HH0 : Hid _ := Hh0.out w2 V1 X1 S1 F1 G1 y2 y1 y5 y0 y6 yw
  have Hbhb : Hid _ := bhb
  have Hbb1 : Hid _ := bb
  have HF1 : Hid _ := F1
  clear HN1 S1 F1 G1 y2 y1 y5 y0 y6 yw bhb bb
  refine wp_region_mix (C := fun w' => ∃ z : Keep (fun c => c = hb) w2, w' = z.to) [0, 1, 2, 3, 4, 7] [5, 6, 8, 9] 10 (by kernel_rfl) (by kernel_rfl) (by kernel_rfl) ⟨⟨w2.drew, fun _ _ => rfl⟩, rfl⟩ ?_
  simp only [List.map_cons, List.map_nil, List.getD_cons_succ, List.getD_cons_zero, wpChain, List.drop_succ_cons, List.drop_zero]
  repeat (go_big_quiet_step (fail))
  refine wpQuiet_nil ?_
  refine ⟨⟨⟨w2.drew, fun _ _ => rfl⟩, rfl⟩, ?_⟩
  obtain ⟨wd, hwd, HBd, Hkd⟩ : ∃ wd, wd = w2.drew ∧ Hid (Below w2.heap.size w2 wd) ∧ Hid (∀ c : Nat, wd.heap[c]? = w2.heap[c]?) := ⟨_, rfl, (Below.refl _ _).drew, fun _ => rfl⟩
  rw [← hwd]
  clear hwd
  go_wp2_with (go_at_call 14; refine (HNt.out _).mono ?_; rintro e w3 ⟨rfl, rfl⟩)
  have hlt3 : ∀ c, c < w2.heap.size → c < w3.heap.size := fun c hc => Nat.lt_of_lt_of_le hc HBd.out.size
  refine ⟨⟨⟨w3, fun c hc => Hkd.out c⟩, rfl⟩, ?_⟩
  go_wp2
  refine ⟨⟨⟨w3.alloc (.cells #[.int .i32 t1] 42), fun c hc => by subst hc; rw [Below.heap_alloc _ _ _ (hlt3 _ Hbhb.out.1.1)]; exact Hkd.out _⟩, rfl⟩, ?_⟩
  obtain ⟨i0, hi, hz0, hz1, hz2⟩ := info_parts (show (Try.prog.info? 42).map (fun i => (i.zero, i.size, i.bytes)) = some (some (.int .i32 0), 1, 4) by kernel_rfl)
  refine wpList_append_own_at _ rfl (.tmp 20) (.tmp 21) 29 rfl w2.heap.size 42 i0 (.int .i32 0) 1 4 Try.underlying29 hi hz0 hz1 hz2 rfl (by decide) (.slice (some ⟨w3.heap.size, 0, none⟩) 1 1) 1 [.int .i32 t1] rfl ?own ⟨b, 0, none⟩ k cap (ls.map fun (l : Nat) => .int .i32 (l : Int)) rfl (by simp [hk]) ?news ?one (by unfold maxLen; omega) (by omega) ?hbase ?kont
  case own => exact ⟨rfl, .inr ⟨w3.heap.size, 1, _, rfl, HBd.out.size, heap_alloc_new w3 _, Nat.le_refl _, by unfold maxLen; omega, rfl, rfl⟩⟩
  case news =>
    intro j u hu
    have hadd : (⟨b, 0, none⟩ : Addr).add j = ⟨b, j, none⟩ := by unfold Addr.add; split <;> simp_all
    have hj : j < k := by have := (List.getElem?_eq_some_iff.1 hu).1; simpa [hk] using this
    rw [hadd, World.cell?_of_block (w := w3) (a := ⟨b, j, none⟩) (Below.heap_alloc _ _ _ (hlt3 _ Hbb1.out.1.1)), World.cell?_of_block (w := w2) (a := ⟨b, j, none⟩) (Hkd.out b), World.cell?_of_block (w := w) (a := ⟨b, j, none⟩) Hbb1.out.2, HC.out j hj, ← hu]
    simp [List.getD_eq_getElem?_getD, show j < ls.length by omega]
  case one => intro u hu; simp only [List.mem_map] at hu; obtain ⟨l, _, rfl⟩ := hu; rfl
  case hbase => have := HBd.out.size; simp; omega
  case kont =>
  intro v' w4 hown hgrow hniff hat
  obtain ⟨g, cap', rfl, hge, hglt⟩ := hown.form (by omega)
  rw [show 1 + k = k + 1 by omega] at hown
  rw [show 1 + k = k + 1 by omega]
  have HB4 : Hid (Below w2.heap.size w2 w4) := (HBd.out.alloc HBd.out.size _).grown hgrow (by have := HBd.out.size; simp; omega) (fun c e => by
    have e' : w3.heap.size = c := by simpa [Value.ownBlock] using e
    have := HBd.out.size; omega)
  have hcells : ∀ i, i < k + 1 → w4.cell? ⟨g, i, none⟩ = some (.int .i32 ((t1 :: ls).getD i 0 : Nat)) := fun i hi => by
    rw [hown.cellAt i (by omega)]
    cases i with
    | zero => simp
    | succ i => simp [List.getD_eq_getElem?_getD, show i < ls.length by omega]
  have HJ0 : Hid _ := HH0.out w4 g cap' HB4.out hge hglt hcells
  refine ⟨rfl, ⟨⟨w4, fun c hc => by subst hc; exact HB4.out.block _ Hbhb.out.1.1⟩, rfl⟩, ?_⟩
  clear hown hgrow hniff hat hge hglt hcells
  go_wp2_with (go_at_call 13; refine Calls.mono HJ0.out ?_; rintro e w5 ⟨rfl, hJ⟩; have HJ5 : Hid (J 0 w5) := hJ; clear hJ)
  refine ⟨⟨⟨w5, fun c hc => by subst hc; exact (HHJ.out 0 w5 HJ5.out).1.trans Hbhb.out.2.symm⟩, rfl⟩, ?_⟩
  go_wp2
  refine HK.out _ _ ?_
  clear HK HJ0 HB4 HH0 zh hnz HBd Hkd hlt3 HS1
  go_wp2
  go_loopw [26] (fun i wr => ∃ m : Nat, m ≤ k ∧ i = .int .i64 m ∧ Hid (J m wr)) (fun i _ => k - (intOf i).toNat)
  case atStart => exact ⟨0, by omega, rfl, HJ5.out⟩
  case round =>
    obtain ⟨m, hm, rfl, Hm⟩ := hrel
    rename_i wr
    by_cases hmk : m < k
    · obtain ⟨l, hl⟩ : ∃ l, l = ls.getD m 0 := ⟨_, rfl⟩
      have hmem : l ∈ ls := by rw [hl, List.getD_eq_getElem?_getD, List.getElem?_eq_getElem (by omega)]; exact List.getElem_mem _
      have hl3 := HLS.out l hmem
      have hJm := HHJ.out m wr Hm.out
      have hr : wr.cell? ⟨b, m, none⟩ = some (.int .i32 l) := by
        rw [World.cell?_of_block (a := ⟨b, m, none⟩) hJm.2, HC.out m hmk, ← hl]
      have zh : ∀ z : Keep (fun c => c = hb) wr, z.to.cell? ⟨hb, 0, none⟩ = some (.pointer (some ⟨p, 0, none⟩)) := fun z => by
        rw [z.cell hb 0 rfl, World.cell?_of_block (a := ⟨hb, 0, none⟩) hJm.1]; exact chb
      have hhlt : hb < wr.heap.size := by
        have hc : wr.cell? ⟨hb, 0, none⟩ = some (.pointer (some ⟨p, 0, none⟩)) := by rw [World.cell?_of_block (a := ⟨hb, 0, none⟩) hJm.1]; exact chb
        exact World.block_lt_of_cell? wr _ hc
      have hnz := keep_ne (fun c => c = hb) wr
      have hN6 : Hid _ := fun w => fnNot l w (by omega) (by omega)
      have HH1 : Hid _ := Hh1.out m wr hmk Hm.out
      rw [← hl] at HH1
      have HL : Hid _ := hl
      have HJm : Hid _ := hJm
      clear hl hmem hJm
      obtain ⟨l6, hl6⟩ : ∃ l6 : Int, l6 = lnot l := ⟨_, rfl⟩
      rw [← hl6] at hN6 HH1
      clear hl6
      go_wp2_with (fail)
      rename_i K6 hK6
      have HK6 : Hid _ := hK6
      clear hK6
      refine wp_region_mix (C := fun w' => ∃ z : Keep (fun c => c = hb) wr, w' = z.to) [0, 1, 2, 3, 4, 5] [6, 7, 8] 9 (by kernel_rfl) (by kernel_rfl) (by kernel_rfl) ⟨⟨wr.drew, fun _ _ => rfl⟩, rfl⟩ ?_
      simp only [List.map_cons, List.map_nil, List.getD_cons_succ, List.getD_cons_zero, wpChain, List.drop_succ_cons, List.drop_zero]
      repeat (go_big_quiet_step (fail))
      refine wpQuiet_nil ?_
      refine ⟨⟨⟨wr.drew, fun _ _ => rfl⟩, rfl⟩, ?_⟩
      obtain ⟨wd, hwd, HBd, Hkd⟩ : ∃ wd, wd = wr.drew ∧ Hid (Below wr.heap.size wr wd) ∧ Hid (∀ c : Nat, wd.heap[c]? = wr.heap[c]?) := ⟨_, rfl, (Below.refl _ _).drew, fun _ => rfl⟩
      rw [← hwd]
      clear hwd
      go_wp2_with (go_at_call 14; refine Calls.mono (hN6.out _) ?_; rintro e w6 ⟨rfl, rfl⟩)
      have hlt6 : hb < w6.heap.size := Nat.lt_of_lt_of_le hhlt HBd.out.size
      refine ⟨⟨⟨w6, fun c hc => Hkd.out c⟩, rfl⟩, ?_⟩
      go_wp2
      refine ⟨⟨⟨w6.alloc (.cells #[.int .i32 t, .int .i32 l6] 42), fun c hc => by subst hc; rw [Below.heap_alloc _ _ _ hlt6]; exact Hkd.out _⟩, rfl⟩, ?_⟩
      have HJ6 : Hid _ := HH1.out (w6.alloc (.cells #[.int .i32 t, .int .i32 l6] 42)) w6.heap.size (HBd.out.alloc HBd.out.size _) HBd.out.size (by simp) (by rw [cell_of_row _ _ 0 _ 42 (0, 0) (heap_alloc_new w6 _)]; rfl) (by rw [cell_of_row _ _ 1 _ 42 (0, 0) (heap_alloc_new w6 _)]; rfl)
      go_wp2_with (go_at_call 13; refine Calls.mono HJ6.out ?_; rintro e w7 ⟨rfl, hJ⟩; have HJ7 : Hid (J (m + 1) w7) := hJ; clear hJ)
      refine ⟨⟨⟨w7, fun c hc => by subst hc; exact (HHJ.out _ w7 HJ7.out).1.trans HJm.out.1.symm⟩, rfl⟩, ?_⟩
      go_wp2
      refine HK6.out _ _ ?_
      clear HK6 HJ6 HH1 zh hnz HBd Hkd
      go_wp2
      exact ⟨⟨m + 1, by omega, by go_num, HJ7.out⟩, by simp [intOf]; omega⟩
    · have hmk' : m = k := by omega
      subst hmk'
      go_wp2
      go_ret
      exact ⟨rfl, Hm.out⟩
end
end Go.Proofs.Qxb6609294a
