/- AddClause and anyOf in the two states that the laws come to: nothing assigned (clauses are attached); no clause (the minted variables are false). -/
import Derived.Test.Qxb6609294aAny
namespace Go.Proofs.Qxb6609294a
open Go.RowKit
set_option linter.unusedVariables false

def nlnot (l : Nat) : Nat := if l % 2 = 0 then l + 1 else l - 1
theorem nlnot_int (l : Nat) : ((nlnot l : Nat) : Int) = lnot l := by unfold nlnot lnot; split <;> split <;> omega
theorem nlnot_lt (l n : Nat) (h : l < 2 * n) : nlnot l < 2 * n := by unfold nlnot; split <;> omega

section
variable {w : World} {p : Nat} {V : Nat → Value} {X : Nat → List Value} {n n0 n5 : Nat}

/-- nothing is assigned -/
structure InvA (w : World) (p : Nat) (V : Nat → Value) (X : Nat → List Value) (n n0 : Nat) : Prop where
  sol : Sol w p V X 0 false
  gd : Gd X n
  zero : X 2 = List.replicate n (.int .i8 0)
  cls : (X 0).length = n0
  wat : ∀ i, (X (16 + i)).length ≤ 2 * n0

theorem InvA.below (I : InvA w p V X n n0) {w' : World} (h : Below w.heap.size w w') : InvA w' p V X n n0 := ⟨I.sol.below h, I.gd, I.zero, I.cls, I.wat⟩

theorem Fr.before {V' : Nat → Value} {w1 w2 : World} (h : Below w.heap.size w w1) (k : Fr p V w1 V' w2) : Fr p V w V' w2 := (Fr.of_below h).trans k

theorem kept_all (ls : List Nat) : kept (fun _ => 0) ls = ls.map (fun (l : Nat) => Value.int .i32 (l : Int)) := by
  unfold kept
  rw [List.filter_eq_self.2]
  intro l _
  unfold lv
  split <;> rfl

theorem addA (I : InvA w p V X n n0) (hn : n ≤ 90000) (hn0 : n0 ≤ 400000) (b k cap : Nat) (lits : List Nat) (hk : lits.length = k) (hk2 : 2 ≤ k) (hk1 : k ≤ 100000)
    (hcell : ∀ i, i < k → w.cell? ⟨b, i, none⟩ = some (.int .i32 (lits.getD i 0 : Nat))) (hb : b < w.heap.size) (hlt : ∀ l ∈ lits, l < 2 * n) :
    Calls Try.prog 13 #[.pointer (some ⟨p, 0, none⟩), .slice (some ⟨b, 0, none⟩) k cap] w fun e w' => e = .returned (.tuple #[]) ∧ ∃ V' X', InvA w' p V' X' n (n0 + 1) ∧ Fr p V w V' w' := by
  refine addClause_cps _ I.sol n (by omega) I.gd.l2 b k cap lits (fun _ => 0) hk (by omega) hk1 hcell hb hlt (fun l hl => ⟨.inl rfl, ?_⟩) ?_ ?_
  · have := hlt l hl
    rw [I.zero, List.getElem?_replicate, if_pos (by omega)]
  · rintro ⟨l, _, h1⟩
    exfalso
    unfold lv at h1
    split at h1 <;> omega
  · intro _ wr gc cc hB hown
    have hkl : (kept (fun _ => 0) lits).length = k := by rw [kept_all, List.length_map, hk]
    rw [hkl] at hown ⊢
    rw [kept_all] at hown
    refine .inl ⟨hk2, ?_⟩
    have Ir := I.below hB
    have hgc := hown.lt gc rfl
    obtain ⟨l0, l1, rest, rfl⟩ : ∃ l0 l1 rest, lits = l0 :: l1 :: rest := by
      match lits, hk with
      | l0 :: l1 :: rest, _ => exact ⟨l0, l1, rest, rfl⟩
      | [_], h => simp at h; omega
      | [], h => simp at h; omega
    have r0 : wr.cell? ⟨gc, 0, none⟩ = some (.int .i32 l0) := by rw [hown.cellAt 0 (by omega)]; rfl
    have r1 : wr.cell? ⟨gc, 1, none⟩ = some (.int .i32 l1) := by rw [hown.cellAt 1 (by omega)]; rfl
    refine (attach_ok Ir.sol n gc k cc l0 l1 n0 Ir.gd.l1 hk2 (Free.new I.sol hgc.1 hgc.2) r0 r1 (hlt _ (by simp)) (hlt _ (by simp)) (by omega) Ir.cls hn0 Ir.wat).mono ?_
    rintro e w' ⟨rfl, V', X', S', F', c0, c1, ck, cw⟩
    refine ⟨⟨_, rfl⟩, V', X', ⟨S', ⟨c1, ?_, ?_, ?_, ?_, ?_, ?_, ?_⟩, ?_, c0, cw⟩, Fr.before hB F'⟩
    · rw [ck 2 (by decide) (by decide) (by decide)]; exact I.gd.l2
    · rw [ck 3 (by decide) (by decide) (by decide)]; exact I.gd.l3
    · rw [ck 4 (by decide) (by decide) (by decide)]; exact I.gd.l4
    · rw [ck 8 (by decide) (by decide) (by decide)]; exact I.gd.x8
    · rw [ck 9 (by decide) (by decide) (by decide)]; exact I.gd.l9
    · rw [ck 10 (by decide) (by decide) (by decide)]; exact I.gd.x10
    · rw [ck 12 (by decide) (by decide) (by decide)]; exact I.gd.l12
    · rw [ck 2 (by decide) (by decide) (by decide)]; exact I.zero

theorem anyA (I : InvA w p V X n n0) (hn : n ≤ 80000) (hb b k cap : Nat) (ls : List Nat) (hk : ls.length = k) (hk0 : 0 < k) (hk1 : k ≤ 80000) (hn0 : n0 + k ≤ 300000) (hhb : Free p V w hb) (chb : w.cell? ⟨hb, 0, none⟩ = some (.pointer (some ⟨p, 0, none⟩)))
    (hbb : Free p V w b) (hcell : ∀ i, i < k → w.cell? ⟨b, i, none⟩ = some (.int .i32 (ls.getD i 0 : Nat))) (hls : ∀ l ∈ ls, l < 2 * n) :
    Calls Try.prog 10 #[.pointer (some ⟨hb, 0, none⟩), .slice (some ⟨b, 0, none⟩) k cap] w fun e w' => e = .returned (.int .i32 (2 * n : Nat)) ∧ ∃ V' X', InvA w' p V' X' (n + 1) (n0 + 1 + k) ∧ Fr p V w V' w' := by
  refine anyOf_cps (fun i wr => ∃ V' X', InvA wr p V' X' (n + 1) (n0 + 1 + i) ∧ Fr p V w V' wr) I.sol n I.gd (by omega) hb b k cap ls hk (by omega) hhb chb hbb hcell (fun l hl => by have := hls l hl; omega) ?_ ?_ ?_
  · intro w1 V1 X1 S1 F1 G1 y2 y1 y5 y0 y6 yw w2 b2 c2 hB hb2 hb2' hcells
    have I1 : InvA w1 p V1 X1 (n + 1) n0 := ⟨S1, G1, by rw [y2, I.zero, List.replicate_succ'], by rw [y0]; exact I.cls, fun i => by rw [yw i]; exact I.wat i⟩
    refine (addA (I1.below hB) (by omega) (by omega) b2 (k + 1) c2 ((2 * n + 1) :: ls) (by simp [hk]) (by omega) (by omega) hcells hb2' ?_).mono ?_
    · intro l hl
      rcases List.mem_cons.1 hl with rfl | hl
      · omega
      · have := hls l hl; omega
    · rintro e w' ⟨rfl, V', X', I', F'⟩
      exact ⟨rfl, V', X', I', F1.trans (Fr.before hB F')⟩
  · rintro i wr hi ⟨V', X', I', F'⟩ w2 b2 hB hb2 hb2' h0 h1
    have hl : ls.getD i 0 < 2 * n := by
      rw [List.getD_eq_getElem?_getD, List.getElem?_eq_getElem (by omega)]; exact hls _ (List.getElem_mem _)
    refine (addA (I'.below hB) (by omega) (by omega) b2 2 2 [2 * n, nlnot (ls.getD i 0)] rfl (by omega) (by omega) ?_ hb2' ?_).mono ?_
    · intro j hj
      match j, hj with
      | 0, _ => exact h0
      | 1, _ => rw [h1, ← nlnot_int]; rfl
    · intro l hl'
      have := nlnot_lt _ _ hl
      simp only [List.mem_cons, List.not_mem_nil, or_false] at hl'
      rcases hl' with rfl | rfl <;> omega
    · rintro e w' ⟨rfl, V'', X'', I'', F''⟩
      exact ⟨rfl, V'', X'', I'', F'.trans (Fr.before hB F'')⟩
  · rintro i wr ⟨V', X', _, F'⟩
    exact ⟨(hhb.fr F').2, (hbb.fr F').2⟩

/-- no clause; some variables are false -/
structure InvB (w : World) (p : Nat) (V : Nat → Value) (X : Nat → List Value) (n n5 : Nat) (vs : Nat → Int) : Prop where
  sol : Sol w p V X n5 false
  gd : Gd X n
  val : ∀ i, i < n → (X 2)[i]? = some (.int .i8 (vs i))
  two : ∀ i, vs i = 0 ∨ vs i = -1
  trail : (X 5).length = n5
  nils : ∀ i, V (16 + i) = nilS
  lev : X 6 = []

theorem InvB.below {vs : Nat → Int} (I : InvB w p V X n n5 vs) {w' : World} (h : Below w.heap.size w w') : InvB w' p V X n n5 vs := ⟨I.sol.below h, I.gd, I.val, I.two, I.trail, I.nils, I.lev⟩

/-- one literal is unset, none true: it becomes true -/
theorem addB {vs : Nat → Int} (I : InvB w p V X n n5 vs) (hn : n ≤ 90000) (hn5 : n5 ≤ 90000) (v b k cap : Nat) (lits : List Nat) (hk : lits.length = k) (hk0 : 0 < k) (hk1 : k ≤ 100000)
    (hcell : ∀ i, i < k → w.cell? ⟨b, i, none⟩ = some (.int .i32 (lits.getD i 0 : Nat))) (hb : b < w.heap.size) (hlt : ∀ l ∈ lits, l < 2 * n) (hv : v < n)
    (hno : ∀ l ∈ lits, lv l (vs (l / 2)) ≠ 1) (hkept : kept vs lits = [.int .i32 (2 * v + 1 : Nat)]) :
    Calls Try.prog 13 #[.pointer (some ⟨p, 0, none⟩), .slice (some ⟨b, 0, none⟩) k cap] w fun e w' => e = .returned (.tuple #[]) ∧ ∃ V' X', InvB w' p V' X' n (n5 + 1) (upd vs v (-1)) ∧ Fr p V w V' w' := by
  refine addClause_cps _ I.sol n (by omega) I.gd.l2 b k cap lits vs hk (by omega) hk1 hcell hb hlt (fun l hl => ⟨I.two _, I.val _ (by have := hlt l hl; omega)⟩) ?_ ?_
  · rintro ⟨l, hl, h1⟩
    exact absurd h1 (hno l hl)
  · intro _ wr gc cc hB hown
    have Ir := I.below hB
    refine .inr ⟨by rw [hkept]; rfl, 2 * v + 1, by omega, hkept, ?_⟩
    refine (assign_ok Ir.sol n v (2 * v + 1) n5 Ir.gd hv rfl (by omega) Ir.lev Ir.trail (by omega)).mono ?_
    rintro e w1 ⟨rfl, V1, X1, S1, F1, G1, z2, z5, z1, z0, z6, zw⟩
    refine ⟨rfl, ?_⟩
    have nil1 : ∀ i, V1 (16 + i) = nilS := fun i => by rw [S1.tie i, z1, ← I.sol.tie i]; exact I.nils i
    have h5 : (X1 5).length = n5 + 1 := by rw [z5, List.length_append, I.trail]; rfl
    refine (propagate_ok n v n5 S1 G1.l1 hv (by omega) h5 (by omega) (by rw [z5, List.getElem?_append_right (by rw [I.trail]; exact Nat.le_refl _), I.trail]; simp) (nil1 _)).mono ?_
    rintro e w2 ⟨rfl, S2, F2⟩
    obtain ⟨S3, F3⟩ := S2.fail false
    refine ⟨rfl, S2.cell 15, S2.frozen 15, V1, X1, ⟨by rw [Int.natCast_add]; exact S3, G1, ?_, ?_, h5, nil1, by rw [z6]; exact I.lev⟩, Fr.before hB ((F1.trans F2).trans F3)⟩
    · intro i hi
      rw [z2]
      by_cases hiv : i = v
      · subst hiv; rw [upd_same, List.getElem?_set_self (by rw [I.gd.l2]; exact hi)]
      · rw [upd_ne _ _ hiv, List.getElem?_set_ne (fun e => hiv e.symm)]; exact I.val i hi
    · intro i
      by_cases hiv : i = v
      · subst hiv; rw [upd_same]; exact .inr rfl
      · rw [upd_ne _ _ hiv]; exact I.two i

/-- a literal is true: nothing turns -/
theorem addT {vs : Nat → Int} (I : InvB w p V X n n5 vs) (hn : n ≤ 90000) (b k cap : Nat) (lits : List Nat) (hk : lits.length = k) (hk0 : 0 < k) (hk1 : k ≤ 100000)
    (hcell : ∀ i, i < k → w.cell? ⟨b, i, none⟩ = some (.int .i32 (lits.getD i 0 : Nat))) (hb : b < w.heap.size) (hlt : ∀ l ∈ lits, l < 2 * n)
    (hyes : ∃ l ∈ lits, lv l (vs (l / 2)) = 1) :
    Calls Try.prog 13 #[.pointer (some ⟨p, 0, none⟩), .slice (some ⟨b, 0, none⟩) k cap] w fun e w' => e = .returned (.tuple #[]) ∧ ∃ V' X', InvB w' p V' X' n n5 vs ∧ Fr p V w V' w' := by
  refine addClause_cps _ I.sol n (by omega) I.gd.l2 b k cap lits vs hk (by omega) hk1 hcell hb hlt (fun l hl => ⟨I.two _, I.val _ (by have := hlt l hl; omega)⟩) ?_ ?_
  · intro _ w' hB
    exact ⟨V, X, I.below hB, Fr.of_below hB⟩
  · intro hno
    obtain ⟨l, hl, h1⟩ := hyes
    exact absurd h1 (hno l hl)

theorem anyB {vs : Nat → Int} (I : InvB w p V X n n5 vs) (hn : n ≤ 80000) (hn5 : n5 ≤ 80000) (hb b k cap : Nat) (ls : List Nat) (hk : ls.length = k) (hk1 : k ≤ 80000) (hhb : Free p V w hb) (chb : w.cell? ⟨hb, 0, none⟩ = some (.pointer (some ⟨p, 0, none⟩)))
    (hbb : Free p V w b) (hcell : ∀ i, i < k → w.cell? ⟨b, i, none⟩ = some (.int .i32 (ls.getD i 0 : Nat))) (hls : ∀ l ∈ ls, l < 2 * n ∧ l % 2 = 0 ∧ vs (l / 2) = -1) :
    Calls Try.prog 10 #[.pointer (some ⟨hb, 0, none⟩), .slice (some ⟨b, 0, none⟩) k cap] w fun e w' => e = .returned (.int .i32 (2 * n : Nat)) ∧ ∃ V' X', InvB w' p V' X' (n + 1) (n5 + 1) (upd vs n (-1)) ∧ Fr p V w V' w' := by
  refine anyOf_cps (fun i wr => ∃ V' X', InvB wr p V' X' (n + 1) (n5 + 1) (upd vs n (-1)) ∧ Fr p V w V' wr) I.sol n I.gd (by omega) hb b k cap ls hk (by omega) hhb chb hbb hcell (fun l hl => by have := (hls l hl).1; omega) ?_ ?_ ?_
  · intro w1 V1 X1 S1 F1 G1 y2 y1 y5 y0 y6 yw w2 b2 c2 hB hb2 hb2' hcells
    have e0 : ∀ i, i < n → upd vs n 0 i = vs i := fun i hi => upd_ne _ _ (by omega)
    have I1 : InvB w1 p V1 X1 (n + 1) n5 (upd vs n 0) := by
      refine ⟨S1, G1, fun i hi => ?_, fun i => ?_, by rw [y5]; exact I.trail, fun i => ?_, by rw [y6]; exact I.lev⟩
      · rw [y2]
        by_cases hi' : i = n
        · subst hi'; rw [upd_same, List.getElem?_append_right (by rw [I.gd.l2]; exact Nat.le_refl _), I.gd.l2]; simp
        · rw [List.getElem?_append_left (by rw [I.gd.l2]; omega), e0 i (by omega)]; exact I.val i (by omega)
      · by_cases hi' : i = n
        · subst hi'; rw [upd_same]; exact .inl rfl
        · rw [upd_ne _ _ hi']; exact I.two i
      · rw [S1.tie i, y1]
        have := I.nils i
        rw [I.sol.tie i] at this
        simp only [List.getD_eq_getElem?_getD] at this ⊢
        rcases Nat.lt_or_ge i (X 1).length with hi | hi
        · rw [List.getElem?_append_left hi]; exact this
        · rw [List.getElem?_append_right hi]
          cases hu : [nilS, nilS][i - (X 1).length]? with
          | none => rfl
          | some u => have := List.mem_of_getElem? hu; simp at this; rw [this]; rfl
    have hf : ∀ l ∈ ls, lv l (upd vs n 0 (l / 2)) = -1 := fun l hl => by
      obtain ⟨h1, h2, h3⟩ := hls l hl
      rw [e0 _ (by omega), h3]; unfold lv; rw [if_neg (by omega)]
    have hn1 : lv (2 * n + 1) (upd vs n 0 ((2 * n + 1) / 2)) = 0 := by
      rw [show (2 * n + 1) / 2 = n by omega, upd_same]; unfold lv; split <;> rfl
    have e2 : upd (upd vs n 0) n (-1) = upd vs n (-1) := by funext i; by_cases hi : i = n <;> simp [upd, hi]
    refine Calls.mono (addB (I1.below hB) (by omega) (by omega) n b2 (k + 1) c2 ((2 * n + 1) :: ls) (by simp [hk]) (by omega) (by omega) hcells hb2' ?_ (by omega) ?_ ?_) ?_
    · intro l hl
      rcases List.mem_cons.1 hl with rfl | hl
      · omega
      · have := (hls l hl).1; omega
    · intro l hl
      rcases List.mem_cons.1 hl with rfl | hl
      · rw [hn1]; decide
      · rw [hf l hl]; decide
    · unfold kept
      rw [List.filter_cons, if_pos (by rw [hn1]; rfl), List.filter_eq_nil_iff.2 (fun l hl => by rw [hf l hl]; decide)]
      rfl
    · rintro e w' ⟨rfl, V', X', I', F'⟩
      rw [e2] at I'
      exact ⟨rfl, V', X', I', F1.trans (Fr.before hB F')⟩
  · rintro i wr hi ⟨V', X', I', F'⟩ w2 b2 hB hb2 hb2' h0 h1
    have hmem : ls.getD i 0 ∈ ls := by
      rw [List.getD_eq_getElem?_getD, List.getElem?_eq_getElem (by omega)]; exact List.getElem_mem _
    obtain ⟨g1, g2, g3⟩ := hls _ hmem
    have hnl : nlnot (ls.getD i 0) = ls.getD i 0 + 1 := by unfold nlnot; rw [if_pos g2]
    refine Calls.mono (addT (I'.below hB) (by omega) b2 2 2 [2 * n, nlnot (ls.getD i 0)] rfl (by omega) (by omega) ?_ hb2' ?_ ⟨nlnot (ls.getD i 0), by simp, ?_⟩) ?_
    · intro j hj
      match j, hj with
      | 0, _ => exact h0
      | 1, _ => rw [h1, ← nlnot_int]; rfl
    · intro l hl'
      simp only [List.mem_cons, List.not_mem_nil, or_false] at hl'
      rcases hl' with rfl | rfl <;> omega
    · rw [hnl, show (ls.getD i 0 + 1) / 2 = ls.getD i 0 / 2 by omega, upd_ne _ _ (by omega), g3]
      unfold lv; rw [if_pos (by omega)]; rfl
    · rintro e w' ⟨rfl, V'', X'', I'', F''⟩
      exact ⟨rfl, V'', X'', I'', F'.trans (Fr.before hB F'')⟩
  · rintro i wr ⟨V', X', _, F'⟩
    exact ⟨(hhb.fr F').2, (hbb.fr F').2⟩
end
end Go.Proofs.Qxb6609294a
