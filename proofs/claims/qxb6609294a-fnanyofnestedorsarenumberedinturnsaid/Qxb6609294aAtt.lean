/- attach 19. -/
import Derived.Test.Qxb6609294aVal
namespace Go.Proofs.Qxb6609294a
open Go.RowKit
set_option linter.unusedVariables false

/-- worlds in which some blocks lie as in W -/
structure Keep (B : Nat → Prop) (W : World) where
  to : World
  keep : ∀ b, B b → to.heap[b]? = W.heap[b]?
theorem Keep.cell {B : Nat → Prop} {W : World} (z : Keep B W) (b o : Nat) (h : B b) : z.to.cell? ⟨b, o, none⟩ = W.cell? ⟨b, o, none⟩ := World.cell?_of_block (a := ⟨b, o, none⟩) (z.keep b h)
theorem keep_ne (B : Nat → Prop) (W : World) : Nonempty (Keep B W) := ⟨⟨W, fun _ _ => rfl⟩⟩

theorem E_far (i : Nat) : E (16 + i) = 3 := by unfold E; repeat rw [if_neg (by omega)]

section
variable {w : World} {p : Nat} {V : Nat → Value} {X : Nat → List Value} {h : Int} {f : Bool}

theorem wpList_watch {P : Program} {ops : Array Oper} {rest : List Oper} {o : Oper} {a : Act} {Q : Exit → Act → World → Prop} (S : Sol w p V X h f) {g1 n1 cap1 : Nat} (hv1 : V 1 = .slice (some ⟨g1, 0, none⟩) n1 cap1) (hn1 : (X 1).length = n1) (i : Nat) (hin : i < n1) (n : Nat) (hn : (X (16 + i)).length = n) (hgd : o.guard = none) (s x : Operand) (t : TypeId)
    (ho : o.op = .call { callee := .builtin .append, args := #[s, x], argTypes := #[t, t] }) (ht : P.underlying t = some (.slice 3)) {z : Value} {bytes : Nat} (hi : (P.info? 3).map (fun i => (i.zero, i.size, i.bytes)) = some (some z, 1, bytes)) (hzs : z.cells.size = 1) (hbt : bytes ≤ 24)
    (u : Value) (hsm : n + 1 ≤ 1000000) (h1 : u.oneCell' = true)
    (v0 : Value) (hv0 : V (16 + i) = v0) (hs : a.eval s = v0) (B c : Nat) (hx : a.eval x = .slice (some ⟨B, 0, none⟩) 1 c) (tt : TypeId) (fr : Nat × Nat) (hB : w.heap[B]? = some (.cells #[u] tt fr))
    (k : ∀ g cap w2, w2.heap[p]? = w.heap[p]? → w2.heap[g1]? = w.heap[g1]? → (∀ b, Free p V w b → w2.heap[b]? = w.heap[b]?) →
      Sol (w2.setCell ⟨g1, i, none⟩ (.slice (some ⟨g, 0, none⟩) (n + 1) cap)) p (upd V (16 + i) (.slice (some ⟨g, 0, none⟩) (n + 1) cap)) (upd (upd X (16 + i) (X (16 + i) ++ [u])) 1 ((X 1).set i (.slice (some ⟨g, 0, none⟩) (n + 1) cap))) h f →
      Fr p V w (upd V (16 + i) (.slice (some ⟨g, 0, none⟩) (n + 1) cap)) (w2.setCell ⟨g1, i, none⟩ (.slice (some ⟨g, 0, none⟩) (n + 1) cap)) →
      wpList P ops Q rest (a.put o.dst (.slice (some ⟨g, 0, none⟩) (n + 1) cap)) w2) : wpList P ops Q (o :: rest) a w := by
  obtain ⟨i0, hi, hz, hz1, hz2⟩ := info_parts hi
  have hrow := S.own.row (16 + i)
  rw [hn, hv0, E_far] at hrow
  refine wpList_append_lies w hgd s x t ho (p + 1) 3 i0 z 1 bytes ht hi hz hz1 hz2 hzs (by decide) v0 n (X (16 + i)) hs hrow ⟨B, 0, none⟩ 1 c [u] hx rfl
    (World.news_of_block hB) (fun v hv => by rw [List.mem_singleton] at hv; subst hv; exact h1) (by decide) (by unfold maxLen; omega) ?_ S.lt w.heap.size rfl ?_
  · have : (n + 1) * bytes ≤ 1000000 * 24 := Nat.mul_le_mul hsm hbt
    omega
  · intro g cap w2 hown hgrow hat hlt
    rw [← hv0] at hgrow hat
    have hp := Owns.grown_p S (16 + i) hgrow
    obtain ⟨h1, h2⟩ := S.watch (xs := X (16 + i) ++ [u]) hv1 hn1 i hin (by rw [List.length_append, hn, List.length_singleton]) (by rw [E_far]; exact hown) hgrow hat
    have hob : (V 1).ownBlock = some g1 := by rw [hv1]; rfl
    exact k g cap w2 hp (hgrow.block g1 (S.own.lt hob).2 (fun e => S.own.apart 1 (16 + i) g1 (by omega) hob e.symm)) (fun b hb => hgrow.block b hb.1 (fun e => hb.2.2 _ e.symm)) h1 h2

theorem Sol.watchCell (S : Sol w p V X h f) {g1 n1 c1 : Nat} (hv : V 1 = .slice (some ⟨g1, 0, none⟩) n1 c1) (hn : (X 1).length = n1) (i : Nat) (hi : i < n1) : w.cell? ⟨g1, i, none⟩ = some (V (16 + i)) := by
  rw [S.rowCell hv hn i hi, S.tie i, List.getD_eq_getElem?_getD, List.getElem?_eq_getElem (by omega)]
  rfl

theorem Try.infoE0 : (Try.prog.info? (E 0)).map (fun i => (i.zero, i.size, i.bytes)) = some (some nilS, 1, 24) := by kernel_rfl
theorem Try.infoI : (Try.prog.info? 3).map (fun i => (i.zero, i.size, i.bytes)) = some (some (.int .i64 0), 1, 8) := by kernel_rfl

set_option maxHeartbeats 2000000 in
set_option maxRecDepth 100000 in
theorem attach_ok (S : Sol w p V X h f) (n gc m cap l0 l1 n0 : Nat) (hl1 : (X 1).length = 2 * n) (hm : 2 ≤ m) (hgc : Free p V w gc) (r0 : w.cell? ⟨gc, 0, none⟩ = some (.int .i32 l0)) (r1 : w.cell? ⟨gc, 1, none⟩ = some (.int .i32 l1)) (h0 : l0 < 2 * n) (h1 : l1 < 2 * n) (hn : n ≤ 100000)
    (hx0 : (X 0).length = n0) (hn0 : n0 ≤ 400000) (hw : ∀ i, (X (16 + i)).length ≤ 2 * n0) :
    Calls Try.prog 19 #[.pointer (some ⟨p, 0, none⟩), .slice (some ⟨gc, 0, none⟩) m cap] w fun e w' => e = .returned (.int .i64 n0) ∧
      ∃ V' X', Sol w' p V' X' h f ∧ Fr p V w V' w' ∧ (X' 0).length = n0 + 1 ∧ (X' 1).length = 2 * n ∧ (∀ k, k ≠ 0 → k ≠ 1 → k < 16 → X' k = X k) ∧ ∀ i, (X' (16 + i)).length ≤ 2 * (n0 + 1) := by
  obtain ⟨a0, c0, hV0⟩ := S.form 0
  rw [hx0] at hV0
  obtain ⟨g1, c1, hV1, hg1, hg1'⟩ := S.form1 1 (by omega)
  rw [hl1] at hV1
  have k0 : w.cell? ⟨p, 0, none⟩ = some (.slice a0 n0 c0) := by rw [← hV0]; exact S.cell 0
  have HS : Hid (Sol w p V X h f) := S
  clear S
  go_enter Try.func19, Try.ntmps19
  go_wp2_with (at_builtin; refine wpList_push (HS.out.below ((Below.refl _ _).alloc (Nat.le_refl _) (.cells #[.slice (some ⟨gc, 0, none⟩) m cap] 29))) 0 n0 rfl hx0 rfl (.tmp 15) (.tmp 17) 25 rfl Try.underlying25 Try.infoE0 rfl (by decide) [.slice (some ⟨gc, 0, none⟩) m cap] 1 rfl (by decide) (by omega) ?one (fun h => absurd h (by decide)) _ hV0 rfl w.heap.size 1 rfl 29 (0, 0) ?hB ?k)
  case one => intro u hu; simp at hu; subst hu; rfl
  case hB => exact heap_alloc_at _ _ _ (by simp)
  case k =>
  intro g0 c0' w2 hc hf S2 F2
  have k0' : w2.cell? ⟨p, 0, none⟩ = some (.slice a0 n0 c0) := by rw [← hV0]; exact hc 0
  have f0' := hf 0
  clear hc hf k0
  have HS2 : Hid _ := S2
  have HF2 : Hid _ := (Fr.of_below (p := p) (V := V) ((Below.refl w.heap.size w).alloc (Nat.le_refl _) (.cells #[.slice (some ⟨gc, 0, none⟩) m cap] 29))).trans F2
  clear S2 F2
  go_wp2_with (fail)
  rename_i K hK
  have HK : Hid _ := hK
  clear hK k0' f0'
  obtain ⟨w3, hw3⟩ : ∃ w3, w3 = w2.setCell ⟨p, 0, none⟩ (.slice (some ⟨g0, 0, none⟩) (n0 + 1) c0') := ⟨_, rfl⟩
  rw [← hw3] at HS2 HF2
  rw [← hw3]
  clear hw3
  obtain ⟨V3, X3, S3, F3, v31, x30, x31, x3k, x3w⟩ : ∃ V3 X3, Sol w3 p V3 X3 h f ∧ Fr p V w V3 w3 ∧ V3 1 = .slice (some ⟨g1, 0, none⟩) (2 * n) c1 ∧ (X3 0).length = n0 + 1 ∧ (X3 1).length = 2 * n ∧ (∀ k, k ≠ 0 → k ≠ 1 → k < 16 → X3 k = X k) ∧ ∀ i, (X3 (16 + i)).length ≤ 2 * n0 :=
    ⟨_, _, HS2.out, HF2.out, by rw [upd_ne _ _ (by decide)]; exact hV1, by rw [upd_same]; simp [hx0], by rw [upd_ne _ _ (by decide)]; exact hl1, fun k a b c => by rw [upd_ne _ _ a], fun i => by rw [upd_ne _ _ (by omega)]; exact hw i⟩
  clear HS2 HF2
  obtain ⟨ae4, ce4, hVe4⟩ := S3.form (16 + l0)
  obtain ⟨ne4, hne4⟩ : ∃ q, q = (X3 (16 + l0)).length := ⟨_, rfl⟩
  rw [← hne4] at hVe4
  have hle4 : ne4 ≤ 2 * n0 + 0 := by rw [hne4]; exact x3w l0
  have gA4 := (hgc.fr F3)
  have hB1 := S3.own.lt (k := 1) (g := g1) (by rw [v31]; rfl)
  have zk : ∀ z : Keep (fun b => b = p ∨ b = gc ∨ b = g1) w3, z.to.cell? ⟨p, 1, none⟩ = some (.slice (some ⟨g1, 0, none⟩) (2 * n) c1) := fun z => by
    rw [z.cell p 1 (.inl rfl), ← v31]; exact S3.cell 1
  have zr : ∀ z : Keep (fun b => b = p ∨ b = gc ∨ b = g1) w3, z.to.cell? ⟨gc, 0, none⟩ = some (.int .i32 l0) := fun z => by
    rw [z.cell gc 0 (.inr (.inl rfl)), World.cell?_of_block (a := ⟨gc, 0, none⟩) gA4.2]; exact r0
  have ze : ∀ z : Keep (fun b => b = p ∨ b = gc ∨ b = g1) w3, z.to.cell? ⟨g1, l0, none⟩ = some (.slice ae4 ne4 ce4) := fun z => by
    rw [z.cell g1 l0 (.inr (.inr rfl)), ← hVe4]; exact S3.watchCell v31 x31 l0 h0
  have hnz := keep_ne (fun b => b = p ∨ b = gc ∨ b = g1) w3
  have HS3 : Hid _ := S3
  have HF3 : Hid _ := F3
  have Hg : Hid _ := gA4
  have Hne : Hid _ := hne4
  clear S3 F3 gA4 hne4
  refine wp_region_mix (C := fun w' => ∃ z : Keep (fun b => b = p ∨ b = gc ∨ b = g1) w3, w' = z.to) [0, 1, 2, 3, 4, 5, 6, 7, 8, 9, 10, 11, 12, 13, 14, 15, 16] [17, 18] 19 (by kernel_rfl) (by kernel_rfl) (by kernel_rfl) ⟨⟨w3.drew, fun _ _ => rfl⟩, rfl⟩ ?_
  simp only [List.map_cons, List.map_nil, List.getD_cons_succ, List.getD_cons_zero, wpChain, List.drop_succ_cons, List.drop_zero]
  repeat (go_big_quiet_step (fail))
  refine wpQuiet_nil ?_
  refine ⟨⟨⟨w3.drew, fun _ _ => rfl⟩, rfl⟩, ?_⟩
  obtain ⟨wd, hwd, Sd, Fd, hkd⟩ : ∃ wd, wd = w3.drew ∧ Sol wd p V3 X3 h f ∧ Fr p V3 w3 V3 wd ∧ ∀ b : Nat, wd.heap[b]? = w3.heap[b]? :=
    ⟨_, rfl, HS3.out.below ((Below.refl _ _).drew), Fr.of_below ((Below.refl _ _).drew), fun _ => rfl⟩
  rw [← hwd]
  clear hwd
  have HSd : Hid _ := Sd
  have HFd : Hid _ := Fd
  have Hkd : Hid _ := hkd
  clear Sd Fd hkd
  go_wp2
  have hSa := HSd.out.below ((Below.refl _ _).alloc (Nat.le_refl _) (.cells #[.int .i64 n0] 3))
  have hlt : ∀ b, (b = p ∨ b = gc ∨ b = g1) → b < wd.heap.size := fun b hb => by
    rcases hb with rfl | rfl | rfl
    · exact HSd.out.lt
    · exact Nat.lt_of_lt_of_le Hg.out.1.1 HFd.out.size
    · exact (HSd.out.own.lt (k := 1) (by rw [v31]; rfl)).2
  have HSa : Hid _ := hSa
  clear hSa
  refine ⟨⟨⟨wd.alloc (.cells #[.int .i64 n0] 3), fun b hb => by rw [Below.heap_alloc _ _ _ (hlt b hb)]; exact Hkd.out b⟩, rfl⟩, ?_⟩
  refine wpList_watch HSa.out v31 x31 l0 h0 ne4 Hne.out.symm rfl (.tmp 36) (.tmp 38) 28 rfl Try.underlying28 Try.infoI rfl (by decide) (.int .i64 n0) (by omega) rfl _ hVe4 rfl wd.heap.size 1 rfl 3 (0, 0) (heap_alloc_at _ _ _ rfl) ?_
  intro ge4 cape4 w5 hp5 hg5 hfree S5 F5
  refine ⟨rfl, ⟨⟨w5, fun b hb => ?_⟩, rfl⟩, ?_⟩
  · rw [← Hkd.out b, ← Below.heap_alloc wd (.cells #[.int .i64 n0] 3) b (hlt b hb)]
    rcases hb with rfl | rfl | rfl
    · exact hp5
    · exact hfree _ ((Hg.out.1.fr HFd.out).1.fr (Fr.of_below ((Below.refl _ _).alloc (Nat.le_refl _) _))).1
    · exact hg5
  have e5 : w5.cell? ⟨g1, l0, none⟩ = some (.slice ae4 ne4 ce4) := by
    rw [World.cell?_of_block (a := ⟨g1, l0, none⟩) hg5, ← hVe4]; exact HSa.out.watchCell v31 x31 l0 h0
  have f5 : w5.frozen? ⟨g1, l0, none⟩ = false := by
    rw [World.frozen?_of_block (a := ⟨g1, l0, none⟩) hg5]; exact HSa.out.rowFree v31 x31 l0
  obtain ⟨V4, X4, w4, hw4, S4, F4, v41, x40, x41, x4k, x4w⟩ : ∃ V4 X4 w4, w4 = w5.setCell ⟨g1, l0, none⟩ (.slice (some ⟨ge4, 0, none⟩) (ne4 + 1) cape4) ∧ Sol w4 p V4 X4 h f ∧ Fr p V w V4 w4 ∧ V4 1 = .slice (some ⟨g1, 0, none⟩) (2 * n) c1 ∧ (X4 0).length = n0 + 1 ∧ (X4 1).length = 2 * n ∧ (∀ k, k ≠ 0 → k ≠ 1 → k < 16 → X4 k = X k) ∧ ∀ i, (X4 (16 + i)).length ≤ 2 * n0 + 1 := by
    refine ⟨_, _, _, rfl, S5, ((HF3.out.trans HFd.out).trans (Fr.of_below ((Below.refl _ _).alloc (Nat.le_refl _) _))).trans F5, ?_, ?_, ?_, ?_, ?_⟩
    · rw [upd_ne _ _ (by omega)]; exact v31
    · rw [upd_ne _ _ (by omega), upd_ne _ _ (by omega)]; exact x30
    · rw [upd_same, List.length_set]; exact x31
    · intro k a b c; rw [upd_ne _ _ b, upd_ne _ _ (by omega)]; exact x3k k a b c
    · intro i
      rw [upd_ne _ _ (by omega)]
      by_cases hi : i = l0
      · subst hi; rw [upd_same, List.length_append, ← Hne.out]; simp; omega
      · rw [upd_ne _ _ (by omega)]; exact Nat.le_trans (x3w i) (by omega)
  clear S5 F5 HSa hp5 hg5 hfree
  go_wp2
  refine HK.out _ _ ?_
  rw [← hw4]
  clear HK hw4 HS3 HF3 HSd HFd Hkd Hg Hne zk zr ze e5 f5 hnz hlt
  go_wp2_with (fail)
  rename_i K hK
  have HK : Hid _ := hK
  clear hK
  obtain ⟨ae6, ce6, hVe6⟩ := S4.form (16 + l1)
  obtain ⟨ne6, hne6⟩ : ∃ q, q = (X4 (16 + l1)).length := ⟨_, rfl⟩
  rw [← hne6] at hVe6
  have hle6 : ne6 ≤ 2 * n0 + 1 := by rw [hne6]; exact x4w l1
  have gA6 := (hgc.fr F4)
  have hB1 := S4.own.lt (k := 1) (g := g1) (by rw [v41]; rfl)
  have zk : ∀ z : Keep (fun b => b = p ∨ b = gc ∨ b = g1) w4, z.to.cell? ⟨p, 1, none⟩ = some (.slice (some ⟨g1, 0, none⟩) (2 * n) c1) := fun z => by
    rw [z.cell p 1 (.inl rfl), ← v41]; exact S4.cell 1
  have zr : ∀ z : Keep (fun b => b = p ∨ b = gc ∨ b = g1) w4, z.to.cell? ⟨gc, 1, none⟩ = some (.int .i32 l1) := fun z => by
    rw [z.cell gc 1 (.inr (.inl rfl)), World.cell?_of_block (a := ⟨gc, 1, none⟩) gA6.2]; exact r1
  have ze : ∀ z : Keep (fun b => b = p ∨ b = gc ∨ b = g1) w4, z.to.cell? ⟨g1, l1, none⟩ = some (.slice ae6 ne6 ce6) := fun z => by
    rw [z.cell g1 l1 (.inr (.inr rfl)), ← hVe6]; exact S4.watchCell v41 x41 l1 h1
  have hnz := keep_ne (fun b => b = p ∨ b = gc ∨ b = g1) w4
  have HS4 : Hid _ := S4
  have HF4 : Hid _ := F4
  have Hg : Hid _ := gA6
  have Hne : Hid _ := hne6
  clear S4 F4 gA6 hne6
  refine wp_region_mix (C := fun w' => ∃ z : Keep (fun b => b = p ∨ b = gc ∨ b = g1) w4, w' = z.to) [0, 1, 2, 3, 4, 5, 6, 7, 8, 9, 10, 11, 12, 13, 14, 15, 16] [17, 18] 19 (by kernel_rfl) (by kernel_rfl) (by kernel_rfl) ⟨⟨w4.drew, fun _ _ => rfl⟩, rfl⟩ ?_
  simp only [List.map_cons, List.map_nil, List.getD_cons_succ, List.getD_cons_zero, wpChain, List.drop_succ_cons, List.drop_zero]
  repeat (go_big_quiet_step (fail))
  refine wpQuiet_nil ?_
  refine ⟨⟨⟨w4.drew, fun _ _ => rfl⟩, rfl⟩, ?_⟩
  obtain ⟨wd, hwd, Sd, Fd, hkd⟩ : ∃ wd, wd = w4.drew ∧ Sol wd p V4 X4 h f ∧ Fr p V4 w4 V4 wd ∧ ∀ b : Nat, wd.heap[b]? = w4.heap[b]? :=
    ⟨_, rfl, HS4.out.below ((Below.refl _ _).drew), Fr.of_below ((Below.refl _ _).drew), fun _ => rfl⟩
  rw [← hwd]
  clear hwd
  have HSd : Hid _ := Sd
  have HFd : Hid _ := Fd
  have Hkd : Hid _ := hkd
  clear Sd Fd hkd
  go_wp2
  have hSa := HSd.out.below ((Below.refl _ _).alloc (Nat.le_refl _) (.cells #[.int .i64 n0] 3))
  have hlt : ∀ b, (b = p ∨ b = gc ∨ b = g1) → b < wd.heap.size := fun b hb => by
    rcases hb with rfl | rfl | rfl
    · exact HSd.out.lt
    · exact Nat.lt_of_lt_of_le Hg.out.1.1 HFd.out.size
    · exact (HSd.out.own.lt (k := 1) (by rw [v41]; rfl)).2
  have HSa : Hid _ := hSa
  clear hSa
  refine ⟨⟨⟨wd.alloc (.cells #[.int .i64 n0] 3), fun b hb => by rw [Below.heap_alloc _ _ _ (hlt b hb)]; exact Hkd.out b⟩, rfl⟩, ?_⟩
  refine wpList_watch HSa.out v41 x41 l1 h1 ne6 Hne.out.symm rfl (.tmp 56) (.tmp 58) 28 rfl Try.underlying28 Try.infoI rfl (by decide) (.int .i64 n0) (by omega) rfl _ hVe6 rfl wd.heap.size 1 rfl 3 (0, 0) (heap_alloc_at _ _ _ rfl) ?_
  intro ge6 cape6 w5 hp5 hg5 hfree S5 F5
  refine ⟨rfl, ⟨⟨w5, fun b hb => ?_⟩, rfl⟩, ?_⟩
  · rw [← Hkd.out b, ← Below.heap_alloc wd (.cells #[.int .i64 n0] 3) b (hlt b hb)]
    rcases hb with rfl | rfl | rfl
    · exact hp5
    · exact hfree _ ((Hg.out.1.fr HFd.out).1.fr (Fr.of_below ((Below.refl _ _).alloc (Nat.le_refl _) _))).1
    · exact hg5
  have e5 : w5.cell? ⟨g1, l1, none⟩ = some (.slice ae6 ne6 ce6) := by
    rw [World.cell?_of_block (a := ⟨g1, l1, none⟩) hg5, ← hVe6]; exact HSa.out.watchCell v41 x41 l1 h1
  have f5 : w5.frozen? ⟨g1, l1, none⟩ = false := by
    rw [World.frozen?_of_block (a := ⟨g1, l1, none⟩) hg5]; exact HSa.out.rowFree v41 x41 l1
  obtain ⟨V6, X6, w6, hw6, S6, F6, v61, x60, x61, x6k, x6w⟩ : ∃ V6 X6 w6, w6 = w5.setCell ⟨g1, l1, none⟩ (.slice (some ⟨ge6, 0, none⟩) (ne6 + 1) cape6) ∧ Sol w6 p V6 X6 h f ∧ Fr p V w V6 w6 ∧ V6 1 = .slice (some ⟨g1, 0, none⟩) (2 * n) c1 ∧ (X6 0).length = n0 + 1 ∧ (X6 1).length = 2 * n ∧ (∀ k, k ≠ 0 → k ≠ 1 → k < 16 → X6 k = X k) ∧ ∀ i, (X6 (16 + i)).length ≤ 2 * n0 + 2 := by
    refine ⟨_, _, _, rfl, S5, ((HF4.out.trans HFd.out).trans (Fr.of_below ((Below.refl _ _).alloc (Nat.le_refl _) _))).trans F5, ?_, ?_, ?_, ?_, ?_⟩
    · rw [upd_ne _ _ (by omega)]; exact v41
    · rw [upd_ne _ _ (by omega), upd_ne _ _ (by omega)]; exact x40
    · rw [upd_same, List.length_set]; exact x41
    · intro k a b c; rw [upd_ne _ _ b, upd_ne _ _ (by omega)]; exact x4k k a b c
    · intro i
      rw [upd_ne _ _ (by omega)]
      by_cases hi : i = l1
      · subst hi; rw [upd_same, List.length_append, ← Hne.out]; simp; omega
      · rw [upd_ne _ _ (by omega)]; exact Nat.le_trans (x4w i) (by omega)
  clear S5 F5 HSa hp5 hg5 hfree
  go_wp2
  refine HK.out _ _ ?_
  rw [← hw6]
  have HS6 : Hid _ := S6
  have HF6 : Hid _ := F6
  clear HK hw6 HS4 HF4 HSd HFd Hkd Hg Hne zk zr ze e5 f5 hnz hlt S6 F6
  go_wp2
  go_ret
  exact ⟨rfl, V6, X6, HS6.out, HF6.out, x60, x61, x6k, fun i => Nat.le_trans (x6w i) (by omega)⟩
end
end Go.Proofs.Qxb6609294a
