/- A region that draws its order: first operations that only read (in whatever order), then operations that each wait for all of those, one behind the other (stores). Nothing here speaks of one program. -/
import Derived.Test.Qxb6612300aLaws
namespace Go.Proofs.Qxb6612300a
open Go.RowKit
set_option linter.unusedVariables false

section
variable {P : Program} {ops : Array Oper} {md : Region.Mode} {C : World → Prop}

/-- whatever order is picked for the first operations; then R -/
def wpAnyR (P : Program) (md : Region.Mode) (ops : Array Oper) (C : World → Prop) (N : Nat) (R : Array Bool → Act → Prop) : Nat → Array Bool → Act → Prop
  | 0, listed, a => (∀ i, i < N → listed.getD i true = true) ∧ R listed a
  | fuel + 1, listed, a => Region.ready md ops listed ≠ [] ∧ ∀ i ∈ Region.ready md ops listed, qOp P ops C i (wpAnyR P md ops C N R fuel (listed.setIfInBounds i true)) a

theorem wpAny_of_R {N : Nat} {R : Array Bool → Act → Prop} {Q : Exit → Act → World → Prop} {rest : Nat} (hR : ∀ listed a w, C w → R listed a → wpAny P md ops Q rest listed a w) :
    ∀ (fuel : Nat) (listed : Array Bool) (a : Act) (w : World), C w → wpAnyR P md ops C N R fuel listed a → wpAny P md ops Q (rest + fuel) listed a w
  | 0, _, _, _, hw, h => hR _ _ _ hw h.2
  | fuel + 1, _, _, _, hw, h => ⟨fun h0 => absurd h0 h.1, fun i hi => wpOp_of_qOp hw (fun a' w' hw' => wpAny_of_R hR fuel _ a' w' hw') (h.2 i hi)⟩

theorem wpAnyR_first {N : Nat} {R : Array Bool → Act → Prop} {i : Nat} {oi : Oper} {v : Value} (hi : ops[i]? = some oi) (hiN : i < N) (hsel : ∀ (j : Nat) (o : Oper) cs b, ops[j]? = some o → o.op ≠ .select cs b)
    (hsuf : ∀ (j : Nat) (o : Oper), N ≤ j → ops[j]? = some o → ∀ i, i < N → ∃ e ∈ o.after, Region.binds md e = true ∧ e.on = i) :
    ∀ (fuel : Nat) (listed : Array Bool) (a : Act),
      (∀ j oj, ops[j]? = some oj → j ≠ i → listed.getD j true = false → (∀ e ∈ oj.after, Region.binds md e = true → e.on ≠ i) → oi.apart ops oj = true) →
      i ∈ Region.ready md ops listed → YieldsIn P ops C oi v a →
      wpAnyR P md ops C N R fuel (listed.setIfInBounds i true) (a.put oi.dst v) → wpAnyR P md ops C N R (fuel + 1) listed a := by
  intro fuel
  induction fuel with
  | zero =>
    intro listed a _ hr hy H
    refine ⟨fun h => by rw [h] at hr; (cases hr), fun j hj => ?_⟩
    by_cases hji : j = i
    · subst hji; exact hy.qOp hi H
    · exfalso
      obtain ⟨hjun, oj, hoj, hall⟩ := mem_ready.1 hj
      by_cases hjN : j < N
      · have := H.1 j hjN
        rw [getD_set_ne true (Ne.symm hji), hjun] at this
        cases this
      · obtain ⟨e, he, hb, hon⟩ := hsuf j oj (by omega) hoj i hiN
        have h1 := hall e he hb
        rw [hon] at h1
        have h0 := (mem_ready.1 hr).1
        rcases Nat.lt_or_ge i listed.size with h' | h'
        · simp [h'] at h0 h1; rw [h0] at h1; cases h1
        · simp [Array.getElem?_eq_none h'] at h1
  | succ fuel ih =>
    intro listed a hfree hr hy H
    refine ⟨fun h => by rw [h] at hr; (cases hr), fun j hj => ?_⟩
    by_cases hji : j = i
    · subst hji; exact hy.qOp hi H
    · have h1 := H.2 j (ready_mono hj hji)
      obtain ⟨hjun, oj, hoj, hall⟩ := mem_ready.1 hj
      have hnot : ∀ e ∈ oj.after, Region.binds md e = true → e.on ≠ i := fun e he hb heq => by
        have h1 := hall e he hb
        have h0 := (mem_ready.1 hr).1
        rw [heq] at h1
        rcases Nat.lt_or_ge i listed.size with h' | h'
        · simp [h'] at h0 h1; rw [h0] at h1; cases h1
        · simp [Array.getElem?_eq_none h'] at h1
      have h2 := qOp_put hoj (hfree j oj hoj hji hjun hnot) (fun cs b => hsel i oi cs b hi) (fun cs b => hsel j oj cs b hoj) hy h1
      have hfree' : ∀ k ok, ops[k]? = some ok → k ≠ i → (listed.setIfInBounds j true).getD k true = false →
          (∀ e ∈ ok.after, Region.binds md e = true → e.on ≠ i) → oi.apart ops ok = true := fun k ok hk hki hun hno => by
        refine hfree k ok hk hki ?_ hno
        by_cases hjk : j = k
        · subst hjk; exact hjun
        · rw [getD_set_ne true hjk] at hun; exact hun
      refine qOp_mono (fun a' h3 => ih (listed.setIfInBounds j true) a' hfree' (ready_mono hr (Ne.symm hji)) h3.1 ?_) h2
      rw [Array.setIfInBounds_comm _ _ hji]
      exact h3.2

/-- the operations from k on come up one behind the other -/
def seqFrom (md : Region.Mode) (ops : Array Oper) : Nat → Nat → Array Bool → Bool
  | 0, _, listed => (Region.ready md ops listed).isEmpty
  | n + 1, k, listed => (Region.ready md ops listed == [k]) && seqFrom md ops n (k + 1) (listed.setIfInBounds k true)

theorem wpAny_seq {Q : Exit → Act → World → Prop} : ∀ (l : List Oper) (k : Nat) (listed : Array Bool) (a : Act) (w : World), (∀ j, l[j]? = ops[k + j]?) → seqFrom md ops l.length k listed = true → wpList P ops Q l a w → wpAny P md ops Q l.length listed a w
  | [], _, _, _, _, _, hB, h => ⟨by simpa [seqFrom] using hB, h⟩
  | o :: l, k, listed, a, w, hl, hB, h => by
    have h0 : ops[k]? = some o := by simpa using (hl 0).symm
    simp only [List.length_cons, seqFrom, Bool.and_eq_true, beq_iff_eq] at hB
    obtain ⟨hr, hB'⟩ := hB
    refine ⟨fun h => by rw [hr] at h; (cases h), fun i hi => ?_⟩
    rw [hr, List.mem_singleton] at hi
    subst hi
    have ih := fun a' w' => wpAny_seq (Q := Q) l (i + 1) (listed.setIfInBounds i true) a' w' (fun j => by have := hl (j + 1); simpa [Nat.add_assoc, Nat.add_comm 1 j] using this) hB'
    unfold wpOp
    simp only [h0]
    unfold wpList at h
    split
    · rename_i hw
      rw [if_pos hw] at h
      rcases h with h | h
      case inr => exact .inr h
      refine .inl ?_
      unfold Oper.wp at h ⊢
      generalize (execOp a.eval o).run P w = r at *
      cases r with
      | ok n w' =>
        cases n <;> simp only [Oper.upon] at h ⊢
        case value u => exact ih _ _ h
        case skip => exact ih _ _ h
        case defer d => exact ih _ _ h
        case enter f args =>
          exact h.mono fun e w'' he => by
            cases e with
            | returned v => exact ih _ _ he
            | panicked c => exact he
            | outgrown => exact he
        case row r args => exact h.mono fun v w'' he => ih _ _ he
      | halt x w' => cases x <;> simp only [Oper.upon] at h ⊢; exact h
    · rename_i hw
      rw [if_neg hw] at h
      exact ih _ _ h

/-- what the region's edges must be: reckoned -/
def lexThenFrom (md : Region.Mode) (ops : Array Oper) (n2 : Nat) : Nat → Nat → Array Bool → Bool
  | 0, k, listed => (List.range k).all (fun i => listed.getD i true) && seqFrom md ops n2 k listed
  | n + 1, k, listed => (Region.ready md ops listed).contains k && Region.free md ops listed k && lexThenFrom md ops n2 n (k + 1) (listed.setIfInBounds k true)
def sufWaits (md : Region.Mode) (ops : Array Oper) (N : Nat) : Bool :=
  (List.range ops.size).all fun j => decide (j < N) || match ops[j]? with
    | some o => (List.range N).all fun i => o.after.any fun e => Region.binds md e && e.on == i
    | none => true
def lexThenB (md : Region.Mode) (ops : Array Oper) (n1 n2 : Nat) : Bool :=
  Region.noSelect ops && sufWaits md ops n1 && lexThenFrom md ops n2 n1 0 (Array.replicate ops.size false)

theorem wpAnyR_lex {N : Nat} {Q : Exit → Act → World → Prop} {l2 : List Oper} (hs : Region.noSelect ops = true)
    (hsuf : ∀ (j : Nat) (o : Oper), N ≤ j → ops[j]? = some o → ∀ i, i < N → ∃ e ∈ o.after, Region.binds md e = true ∧ e.on = i) (h2 : ∀ j, l2[j]? = ops[N + j]?) :
    ∀ (l : List Oper) (k : Nat) (listed : Array Bool) (a : Act), k + l.length = N → (∀ j, j < l.length → l[j]? = ops[k + j]?) →
    lexThenFrom md ops l2.length l.length k listed = true → wpQuiet P ops C (fun a' => ∀ w', C w' → wpList P ops Q l2 a' w') l a →
    wpAnyR P md ops C N (fun listed a' => ∀ w', C w' → wpAny P md ops Q l2.length listed a' w') l.length listed a
  | [], k, listed, a, hk, _, hB, h => by
    simp only [List.length_nil, lexThenFrom, Bool.and_eq_true, List.all_eq_true, List.mem_range] at hB
    simp only [List.length_nil, Nat.add_zero] at hk
    subst hk
    exact ⟨fun i hi => hB.1 i hi, fun w' hw' => wpAny_seq l2 k listed a w' h2 hB.2 (h w' hw')⟩
  | o :: l, k, listed, a, hk, hl, hB, h => by
    have h0 : ops[k]? = some o := by simpa using (hl 0 (by simp)).symm
    simp only [List.length_cons, lexThenFrom, Bool.and_eq_true] at hB
    obtain ⟨⟨hr, hf⟩, hB'⟩ := hB
    have hst : qOp P ops C k (wpQuiet P ops C (fun a' => ∀ w', C w' → wpList P ops Q l2 a' w') l) a := by unfold qOp; simp only [h0]; exact h
    obtain ⟨v, hy, hK⟩ := yieldsIn_of_qOp h0 hst
    exact wpAnyR_first h0 (by simp at hk; omega) (Region.noSelect_spec hs) hsuf l.length listed a (Region.free_spec h0 hf) (by simpa using hr) hy
      (wpAnyR_lex hs hsuf h2 l (k + 1) _ _ (by simp at hk; omega) (fun j hj => by have := hl (j + 1) (by simpa using hj); simpa [Nat.add_assoc, Nat.add_comm 1 j] using this) hB' hK)

/-- THE LAW. The class: worlds that come behind w. -/
theorem wp_region_then {id : Nat} {Q : Exit → Act → World → Prop} {a : Act} {w : World} (l1 l2 : List Oper) {l : List Oper} (hl : l = l1 ++ l2) (hm : P.follows .mixedOrders = true) (hB : lexThenB .any l.toArray l1.length l2.length = true)
    (h : wpQuiet P l.toArray (fun w' => ∃ z : Later w, w' = z.to) (fun a' => ∀ w', (∃ z : Later w, w' = z.to) → wpList P l.toArray Q l2 a' w') l1 a) : (Code.region id l.toArray true).wp P Q a w := by
  subst hl
  simp only [lexThenB, Bool.and_eq_true] at hB
  obtain ⟨⟨hs, hw⟩, hf⟩ := hB
  have hsuf : ∀ (j : Nat) (o : Oper), l1.length ≤ j → (l1 ++ l2).toArray[j]? = some o → ∀ i, i < l1.length → ∃ e ∈ o.after, Region.binds .any e = true ∧ e.on = i := by
    intro j o hj ho i hi
    simp only [sufWaits, List.all_eq_true, List.mem_range] at hw
    have h1 := hw j (Array.getElem?_eq_some_iff.1 ho).1
    rw [ho] at h1
    simp only [Bool.or_eq_true, decide_eq_true_eq, List.all_eq_true, List.mem_range] at h1
    rcases h1 with h1 | h1
    · omega
    · obtain ⟨e, he, hb⟩ := Array.any_eq_true'.1 (h1 i hi)
      simp only [Bool.and_eq_true, beq_iff_eq] at hb
      exact ⟨e, he, hb⟩
  have h2 : ∀ j, l2[j]? = (l1 ++ l2).toArray[l1.length + j]? := by
    intro j
    rw [List.getElem?_toArray, List.getElem?_append_right (by omega), Nat.add_sub_cancel_left]
  have hlex := wpAnyR_lex (P := P) (C := fun w' => ∃ z : Later w, w' = z.to) (Q := Q) hs hsuf h2 l1 0 _ a (by omega) (fun j hj => by
    rw [Nat.zero_add, List.getElem?_toArray, List.getElem?_append_left hj]) hf h
  refine wp_region_any hm ?_
  have := wpAny_of_R (Q := Q) (rest := l2.length) (fun listed a' w' hw' hR => hR w' hw') l1.length _ a { w with drawn := w.drawn + 1 } ⟨⟨w.drew, (Below.refl _ _).drew⟩, rfl⟩ hlex
  have e : (l1 ++ l2).toArray.size = l2.length + l1.length := by simp [Nat.add_comm]
  rw [e] at this ⊢
  exact this

/-- .. the first n, then the rest -/
theorem wp_region_thenN {id : Nat} {Q : Exit → Act → World → Prop} {a : Act} {w : World} (n : Nat) {l : List Oper} (hm : P.follows .mixedOrders = true) (hB : lexThenB .any l.toArray (l.take n).length (l.drop n).length = true)
    (h : wpQuiet P l.toArray (fun w' => ∃ z : Later w, w' = z.to) (fun a' => ∀ w', (∃ z : Later w, w' = z.to) → wpList P l.toArray Q (l.drop n) a' w') (l.take n) a) : (Code.region id l.toArray true).wp P Q a w :=
  wp_region_then (l.take n) (l.drop n) (List.take_append_drop n l).symm hm hB h
end
end Go.Proofs.Qxb6612300a
