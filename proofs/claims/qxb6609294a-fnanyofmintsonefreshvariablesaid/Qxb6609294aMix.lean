/- A region that draws its order: operations that only read are pulled to the front (whatever order is picked); those that make memory come up one behind the other; then the rest, each of which waits for all of those. Nothing here speaks of one program. -/
import Derived.Test.Qxb6609294aRows
import Derived.WalkKit
import Derived.WalkSpells
import Derived.WalkLawsBesides
import Derived.Deep.MidRow
import Derived.Deep.QuietTactic
import Derived.BigQuiet
namespace Go.Proofs.Qxb6609294a
open Go.RowKit
set_option linter.unusedVariables false

section
variable {P : Program} {ops : Array Oper} {md : Region.Mode} {C : World → Prop} {pre : List Nat}

def NoQ : Exit → Act → World → Prop := fun _ _ _ => False

/-- in every world of the kind C: the value v, and the very world -/
def YieldsC (P : Program) (ops : Array Oper) (C : World → Prop) (o : Oper) (v : Value) (a : Act) : Prop :=
  (Region.wanted o (yielded ops a.tmps) = true ∧ ∀ w, C w → (execOp a.eval o).run P w = .ok (.value v) w) ∨
  (Region.wanted o (yielded ops a.tmps) = false ∧ v = undef)

theorem YieldsC.of_same {o : Oper} {v : Value} {a a' : Act} (hy : YieldsC P ops C o v a) (he : execOp a'.eval o = execOp a.eval o)
    (hw : Region.wanted o (yielded ops a'.tmps) = Region.wanted o (yielded ops a.tmps)) : YieldsC P ops C o v a' := by
  unfold YieldsC at *
  rw [he, hw]
  exact hy

theorem YieldsC.wpOp {Q : Exit → Act → World → Prop} {i : Nat} {o : Oper} {v : Value} {a : Act} (hi : ops[i]? = some o) (hy : YieldsC P ops C o v a)
    {K : Act → World → Prop} {w : World} (hC : C w) (h : K (a.put o.dst v) w) : wpOp P ops Q i K a w := by
  unfold Go.wpOp
  simp only [hi]
  rcases hy with ⟨hw, hv⟩ | ⟨hw, rfl⟩
  · simp only [hw, if_true, Oper.wp, hv w hC, Oper.upon]; exact .inl h
  · simp only [hw, Bool.false_eq_true, if_false]; exact h

theorem wpOp_putC {j : Nat} {oi oj : Oper} {v : Value} (hj : ops[j]? = some oj) (hap : oi.apart ops oj = true)
    (hsi : ∀ cs b, oi.op ≠ .select cs b) (hsj : ∀ cs b, oj.op ≠ .select cs b) {K : Act → World → Prop} {a : Act} {w : World}
    (hy : YieldsC P ops C oi v a) (h : wpOp P ops NoQ j K (a.put oi.dst v) w) :
    wpOp P ops NoQ j (fun a' w' => YieldsC P ops C oi v a' ∧ K (a'.put oi.dst v) w') a w := by
  obtain ⟨h1, h2, h3⟩ := Oper.apart_spec hap
  have keep : ∀ (a : Act), YieldsC P ops C oi v a → ∀ u, YieldsC P ops C oi v (a.put oj.dst u) := fun a hy u =>
    hy.of_same (execOp_put oi hsi a oj.dst u h3) (wanted_put oi a oj.dst u h3)
  have keepD : ∀ d, YieldsC P ops C oi v { a with defers := d :: a.defers } := fun d => hy.of_same rfl rfl
  unfold wpOp at *
  simp only [hj] at *
  rw [wanted_put oj a oi.dst v h1] at h
  split
  · rename_i hw
    simp only [hw, if_true] at h
    rcases h with h | ⟨_, _, _, hlets⟩
    case inr => exact absurd hlets (fun h => h)
    refine .inl ?_
    unfold Oper.wp at *
    rw [execOp_put oj hsj a oi.dst v h1] at h
    generalize (execOp a.eval oj).run P w = r at *
    cases r with
    | ok n w' =>
      cases n <;> simp only [Oper.upon] at h ⊢
      case value u => exact ⟨keep a hy u, by rw [← Act.put_comm a v u h2]; exact h⟩
      case skip => exact ⟨keep a hy _, by rw [← Act.put_comm a v undef h2]; exact h⟩
      case defer d =>
        refine ⟨keep _ (keepD d) _, ?_⟩
        rw [← Act.put_comm _ v undef h2, ← Act.put_defers]
        exact h
      case enter f args =>
        refine Calls.mono h fun e w'' he => ?_
        cases e with
        | returned u => exact ⟨keep a hy u, by rw [← Act.put_comm a v u h2]; exact he⟩
        | panicked c => exact he
        | outgrown => exact he
      case row row args => exact Rows.mono h fun u w'' he => ⟨keep a hy u, by rw [← Act.put_comm a v u h2]; exact he⟩
    | halt x w' =>
      cases x <;> simp only [Oper.upon] at h ⊢
      case panic u => exact h
  · rename_i hw
    simp only [hw] at h
    exact ⟨keep a hy _, by rw [← Act.put_comm a v undef h2]; exact h⟩

theorem wpOp_noQ {Q : Exit → Act → World → Prop} {i : Nat} {K K' : Act → World → Prop} {a : Act} {w : World} (hK : ∀ a w, K a w → K' a w) (h : wpOp P ops NoQ i K a w) : wpOp P ops Q i K' a w := by
  unfold wpOp at *
  split
  · rename_i ho; simp only [ho] at h; exact hK _ _ h
  · rename_i o ho
    simp only [ho] at h
    split
    · rename_i hw
      simp only [hw, if_true] at h
      rcases h with h | ⟨_, _, _, hlets⟩
      case inr => exact absurd hlets (fun h => h)
      refine .inl ?_
      unfold Oper.wp at *
      generalize (execOp a.eval o).run P w = r at *
      cases r with
      | ok n w' =>
        cases n <;> simp only [Oper.upon] at h ⊢
        case value u => exact hK _ _ h
        case skip => exact hK _ _ h
        case defer d => exact hK _ _ h
        case enter f args =>
          refine Calls.mono h fun e w'' he => ?_
          cases e with
          | returned u => exact hK _ _ he
          | panicked c => exact absurd he (fun h => h)
          | outgrown => obtain ⟨_, _, he⟩ := he; exact absurd he (fun h => h)
        case row row args => exact Rows.mono h fun u w'' he => hK _ _ he
      | halt x w' =>
        cases x <;> simp only [Oper.upon] at h
        case panic u => exact absurd h (fun h => h)
    · rename_i hw
      simp only [hw] at h
      exact hK _ _ h

def wpAnyC (P : Program) (md : Region.Mode) (ops : Array Oper) (C : World → Prop) (pre : List Nat) (R : Array Bool → Act → World → Prop) : Nat → Array Bool → Act → World → Prop
  | 0, listed, a, w => (∀ i ∈ pre, listed.getD i true = true) ∧ C w ∧ R listed a w
  | n + 1, listed, a, w => C w ∧ Region.ready md ops listed ≠ [] ∧ ∀ i ∈ Region.ready md ops listed, wpOp P ops NoQ i (wpAnyC P md ops C pre R n (listed.setIfInBounds i true)) a w

theorem wpAnyC.inC {R : Array Bool → Act → World → Prop} : ∀ {n : Nat} {listed : Array Bool} {a : Act} {w : World}, wpAnyC P md ops C pre R n listed a w → C w
  | 0, _, _, _, h => h.2.1
  | _ + 1, _, _, _, h => h.1

theorem wpAny_of_C {Q : Exit → Act → World → Prop} {R : Array Bool → Act → World → Prop} {rest : Nat} (hR : ∀ listed a w, R listed a w → wpAny P md ops Q rest listed a w) :
    ∀ (n : Nat) (listed : Array Bool) (a : Act) (w : World), wpAnyC P md ops C pre R n listed a w → wpAny P md ops Q (rest + n) listed a w
  | 0, _, _, _, h => hR _ _ _ h.2.2
  | n + 1, _, _, _, h => ⟨fun h0 => absurd h0 h.2.1, fun i hi => wpOp_noQ (fun a' w' h' => wpAny_of_C hR n _ a' w' h') (h.2.2 i hi)⟩

theorem not_on {i j : Nat} {oj : Oper} {listed : Array Bool} (hall : ∀ e ∈ oj.after, Region.binds md e = true → listed.getD e.on false = true) (hr : listed.getD i true = false) :
    ∀ e ∈ oj.after, Region.binds md e = true → e.on ≠ i := fun e he hb heq => by
  have h1 := hall e he hb
  rw [heq] at h1
  rcases Nat.lt_or_ge i listed.size with h' | h'
  · simp [h'] at hr h1; rw [hr] at h1; cases h1
  · simp [Array.getElem?_eq_none h'] at h1

theorem wpAnyC_first {R : Array Bool → Act → World → Prop} {i : Nat} {oi : Oper} {v : Value} (hi : ops[i]? = some oi) (hip : i ∈ pre) (hsel : ∀ (j : Nat) (o : Oper) cs b, ops[j]? = some o → o.op ≠ .select cs b)
    (hsuf : ∀ (j : Nat) (o : Oper), j ∉ pre → ops[j]? = some o → ∀ i ∈ pre, ∃ e ∈ o.after, Region.binds md e = true ∧ e.on = i) :
    ∀ (n : Nat) (listed : Array Bool) (a : Act) (w : World), C w →
      (∀ j oj, ops[j]? = some oj → j ≠ i → listed.getD j true = false → (∀ e ∈ oj.after, Region.binds md e = true → e.on ≠ i) → oi.apart ops oj = true) →
      i ∈ Region.ready md ops listed → YieldsC P ops C oi v a →
      wpAnyC P md ops C pre R n (listed.setIfInBounds i true) (a.put oi.dst v) w → wpAnyC P md ops C pre R (n + 1) listed a w := by
  intro n
  induction n with
  | zero =>
    intro listed a w hC _ hr hy H
    refine ⟨hC, fun h => by rw [h] at hr; (cases hr), fun j hj => ?_⟩
    by_cases hji : j = i
    · subst hji; exact hy.wpOp hi hC H
    · exfalso
      obtain ⟨hjun, oj, hoj, hall⟩ := mem_ready.1 hj
      by_cases hjN : j ∈ pre
      · have := H.1 j hjN
        rw [getD_set_ne true (Ne.symm hji), hjun] at this
        cases this
      · obtain ⟨e, he, hb, hon⟩ := hsuf j oj hjN hoj i hip
        exact not_on (i := i) (j := j) hall (mem_ready.1 hr).1 e he hb hon
  | succ n ih =>
    intro listed a w hC hfree hr hy H
    refine ⟨hC, fun h => by rw [h] at hr; (cases hr), fun j hj => ?_⟩
    by_cases hji : j = i
    · subst hji; exact hy.wpOp hi hC H
    · have h1 := H.2.2 j (ready_mono hj hji)
      obtain ⟨hjun, oj, hoj, hall⟩ := mem_ready.1 hj
      have hnot := not_on (i := i) (j := j) hall (mem_ready.1 hr).1
      have h2 := wpOp_putC hoj (hfree j oj hoj hji hjun hnot) (fun cs b => hsel i oi cs b hi) (fun cs b => hsel j oj cs b hoj) hy h1
      have hfree' : ∀ k ok, ops[k]? = some ok → k ≠ i → (listed.setIfInBounds j true).getD k true = false →
          (∀ e ∈ ok.after, Region.binds md e = true → e.on ≠ i) → oi.apart ops ok = true := fun k ok hk hki hun hno => by
        refine hfree k ok hk hki ?_ hno
        by_cases hjk : j = k
        · subst hjk; exact hjun
        · rw [getD_set_ne true hjk] at hun; exact hun
      refine wpOp_noQ (fun a' w' h3 => ih (listed.setIfInBounds j true) a' w' h3.2.inC hfree' (ready_mono hr (Ne.symm hji)) h3.1 ?_) h2
      rw [Array.setIfInBounds_comm _ _ hji]
      exact h3.2

/-- an operation that only reads: it enters nothing -/
def Oper.reads (o : Oper) : Bool := match o.op with
  | .move _ | .assign _ | .load .. | .fieldAddr .. | .indexAddr .. | .convert .. | .binOp .. => true
  | .nilCheck _ => true
  | .call c => match c.callee with | .builtin .len => true | _ => false
  | _ => false

theorem value_bind {P : Program} {w : World} {s : Sem Value} {n : Next} {w' : World} (h : (do pure (Next.value (← s)) : Sem Next).run P w = .ok n w') : ∃ v, n = .value v := by
  simp only [Sem.run_bind] at h
  cases hs : s.run P w with
  | ok v w1 => rw [hs] at h; simp at h; exact ⟨v, h.1.symm⟩
  | halt x w1 => rw [hs] at h; simp at h

theorem Oper.reads_spec {P : Program} {w : World} {ρ : Operand → Value} {o : Oper} (ho : Oper.reads o = true) {n : Next} {w' : World} (h : (execOp ρ o).run P w = .ok n w') : ∃ v, n = .value v := by
  obtain ⟨dst, op, type, pos, after, guard⟩ := o
  cases op <;> simp only [Oper.reads, Bool.false_eq_true] at ho <;> simp only [execOp] at h
  case call c =>
    split at ho
    · rename_i hc
      simp only [resolve, hc, Sem.run_bind, Sem.run_pure, Result.andThen_ok, invoke, builtin] at h
      generalize (Builtin.len_ c.argTypes type (Array.map ρ c.args)).run P w = r at h
      cases r <;> simp at h
      exact ⟨_, h.1.symm⟩
    · cases ho
  case move x => simp at h; exact ⟨_, h.1.symm⟩
  case assign x => simp at h; exact ⟨_, h.1.symm⟩
  case nilCheck x =>
    split at h
    all_goals (first | (simp at h; exact ⟨_, h.1.symm⟩) | (simp [runtimePanic] at h; done) | skip)
    split at h
    all_goals (first | (simp at h; exact ⟨_, h.1.symm⟩) | (simp [runtimePanic] at h; done) | skip)
    rename_i t u _
    simp only [Sem.run_bind, run_program, Result.andThen_ok] at h
    generalize (nilAhead _ _ _ _).run P w = r at h
    cases r with
    | halt x w1 => simp at h
    | ok v w1 =>
      simp only [Result.andThen_ok] at h
      split at h
      · simp [unsupported] at h
      · simp at h; exact ⟨_, h.1.symm⟩
  all_goals exact value_bind h

theorem yieldsC_of_quiet {o : Oper} {a : Act} {K : Act → Prop} (hr : Oper.reads o = true) (h : if Region.wanted o (yielded ops a.tmps) then o.quiet P a C K else K (a.put o.dst undef)) : ∃ v, YieldsC P ops C o v a ∧ K (a.put o.dst v) := by
  by_cases hw : Region.wanted o (yielded ops a.tmps) = true
  · rw [if_pos hw] at h
    obtain ⟨v, h1, h2⟩ := h
    refine ⟨v, .inl ⟨hw, fun w hC => ?_⟩, h2⟩
    have h3 := h1 w hC
    unfold Oper.quietAt at h3
    cases hres : (execOp a.eval o).run P w with
    | halt x w' => rw [hres] at h3; exact absurd h3 (fun h => h)
    | ok n w' =>
      obtain ⟨u, rfl⟩ := Oper.reads_spec hr hres
      rw [hres] at h3
      obtain ⟨rfl, rfl⟩ := h3
      rfl
  · rw [if_neg hw] at h
    exact ⟨undef, .inr ⟨by simpa using hw, rfl⟩, h⟩

/-- the operations from k on come up one behind the other -/
def seqFrom (md : Region.Mode) (ops : Array Oper) : Nat → Nat → Array Bool → Bool
  | 0, _, listed => (Region.ready md ops listed).isEmpty
  | n + 1, k, listed => (Region.ready md ops listed == [k]) && seqFrom md ops n (k + 1) (listed.setIfInBounds k true)

theorem wpAny_seq {Q : Exit → Act → World → Prop} : ∀ (l : List Oper) (k : Nat) (listed : Array Bool) (a : Act) (w : World), (∀ j, l[j]? = ops[k + j]?) → seqFrom md ops l.length k listed = true → wpList P ops Q l a w → wpAny P md ops Q l.length listed a w
  | [], _, _, _, _, _, hB, h => ⟨by simpa [seqFrom] using hB, h⟩
  | o :: l, k, listed, a, w, hl, hB, h => by
    have h0 : ops[k]? = some o := by simpa using (hl 0).symm
    simp only [List.length_cons, seqFrom, Bool.and_eq_true, beq_iff_eq] at hB
    obtain ⟨hr, hB'⟩ := hB
    refine ⟨fun h => by rw [hr] at h; (cases h), fun i hi => ?_⟩
    rw [hr, List.mem_singleton] at hi
    subst hi
    have ih := fun a' w' => wpAny_seq (Q := Q) l (i + 1) (listed.setIfInBounds i true) a' w' (fun j => by have := hl (j + 1); simpa [Nat.add_assoc, Nat.add_comm 1 j] using this) hB'
    unfold wpOp
    simp only [h0]
    unfold wpList at h
    split
    · rename_i hw
      rw [if_pos hw] at h
      rcases h with h | h
      case inr => exact .inr h
      refine .inl ?_
      unfold Oper.wp at h ⊢
      generalize (execOp a.eval o).run P w = r at *
      cases r with
      | ok n w' =>
        cases n <;> simp only [Oper.upon] at h ⊢
        case value u => exact ih _ _ h
        case skip => exact ih _ _ h
        case defer d => exact ih _ _ h
        case enter f args =>
          exact h.mono fun e w'' he => by
            cases e with
            | returned v => exact ih _ _ he
            | panicked c => exact he
            | outgrown => exact he
        case row r args => exact h.mono fun v w'' he => ih _ _ he
      | halt x w' => cases x <;> simp only [Oper.upon] at h ⊢; exact h
    · rename_i hw
      rw [if_neg hw] at h
      exact ih _ _ h


/-- the makers of memory, one behind the other; C holds between them -/
def wpChain (P : Program) (ops : Array Oper) (C : World → Prop) (R : Act → World → Prop) : List Oper → Act → World → Prop
  | [], a, w => C w ∧ R a w
  | o :: l, a, w => C w ∧ wpList P ops (fun e a' w' => e = .normal ∧ wpChain P ops C R l a' w') [o] a w

theorem wpOp_of_list {i : Nat} {o : Oper} {K : Act → World → Prop} {a : Act} {w : World} (ho : ops[i]? = some o) (h : wpList P ops (fun e a' w' => e = .normal ∧ K a' w') [o] a w) : wpOp P ops NoQ i K a w := by
  unfold wpOp
  simp only [ho]
  unfold wpList at h
  split
  · rename_i hw
    rw [if_pos hw] at h
    rcases h with h | ⟨_, _, _, h, _⟩
    case inr => cases h
    refine .inl ?_
    unfold Oper.wp at h ⊢
    generalize (execOp a.eval o).run P w = r at *
    cases r with
    | ok n w' =>
      cases n <;> simp only [Oper.upon, wpList, true_and] at h ⊢
      case value u => exact h
      case skip => exact h
      case defer d => exact h
      case enter f args =>
        exact h.mono fun e w'' he => by
          cases e with
          | returned v => exact he
          | panicked c => exact absurd he.1 (by simp)
          | outgrown => obtain ⟨_, _, he, _⟩ := he; cases he
      case row r args => exact h.mono fun v w'' he => he
    | halt x w' =>
      cases x <;> simp only [Oper.upon] at h ⊢
      exact absurd h.1 (by simp)
  · rename_i hw
    rw [if_neg hw] at h
    exact h.2

def pullB (md : Region.Mode) (ops : Array Oper) : List Nat → Array Bool → Bool
  | [], _ => true
  | i :: q, listed => (Region.ready md ops listed).contains i && Region.free md ops listed i && (match ops[i]? with | some o => Oper.reads o | none => false) && pullB md ops q (listed.setIfInBounds i true)
def chainB (md : Region.Mode) (ops : Array Oper) : List Nat → Array Bool → Bool
  | [], _ => true
  | i :: q, listed => (Region.ready md ops listed == [i]) && (ops[i]?).isSome && chainB md ops q (listed.setIfInBounds i true)
def setAll (q : List Nat) (listed : Array Bool) : Array Bool := q.foldl (fun l i => l.setIfInBounds i true) listed
def waitsB (md : Region.Mode) (ops : Array Oper) (pre : List Nat) : Bool :=
  (List.range ops.size).all fun j => pre.contains j || match ops[j]? with
    | some o => pre.all fun i => o.after.any fun e => Region.binds md e && e.on == i
    | none => true
def mixB (md : Region.Mode) (ops : Array Oper) (q c : List Nat) (N n2 : Nat) : Bool :=
  let l0 := Array.replicate ops.size false
  let l1 := setAll q l0
  let l2 := setAll c l1
  Region.noSelect ops && waitsB md ops (q ++ c) && pullB md ops q l0 && chainB md ops c l1 && (q ++ c).all (fun i => l2.getD i true) && seqFrom md ops n2 N l2

theorem getD_of {i : Nat} {o : Oper} (h : ops[i]? = some o) : ops.getD i default = o := by simp [h]

theorem wpAnyC_chain {R : Array Bool → Act → World → Prop} {R' : Act → World → Prop} : ∀ (c : List Nat) (listed : Array Bool) (a : Act) (w : World), chainB md ops c listed = true →
    (∀ i ∈ pre, (setAll c listed).getD i true = true) → (∀ a w, R' a w → R (setAll c listed) a w) → wpChain P ops C R' (c.map (fun i => ops.getD i default)) a w → wpAnyC P md ops C pre R c.length listed a w
  | [], _, _, _, _, hp, hR, h => ⟨hp, h.1, hR _ _ h.2⟩
  | i :: c, listed, a, w, hB, hp, hR, h => by
    simp only [chainB, Bool.and_eq_true, beq_iff_eq] at hB
    obtain ⟨⟨hr, hs⟩, hB'⟩ := hB
    obtain ⟨o, ho⟩ := Option.isSome_iff_exists.1 hs
    rw [List.map_cons, getD_of ho] at h
    refine ⟨h.1, by rw [hr]; simp, fun j hj => ?_⟩
    rw [hr, List.mem_singleton] at hj
    subst hj
    refine wpOp_noQ (fun a' w' h' => wpAnyC_chain c (listed.setIfInBounds j true) a' w' hB' hp hR h') (wpOp_of_list ho h.2)

theorem wpAnyC_pull {R : Array Bool → Act → World → Prop} {n : Nat} (hs : Region.noSelect ops = true) (hsuf : ∀ (j : Nat) (o : Oper), j ∉ pre → ops[j]? = some o → ∀ i ∈ pre, ∃ e ∈ o.after, Region.binds md e = true ∧ e.on = i) :
    ∀ (q : List Nat) (listed : Array Bool) (a : Act) (w : World), C w → (∀ i ∈ q, i ∈ pre) → pullB md ops q listed = true →
    wpQuiet P ops C (fun a' => wpAnyC P md ops C pre R n (setAll q listed) a' w) (q.map (fun i => ops.getD i default)) a → wpAnyC P md ops C pre R (n + q.length) listed a w
  | [], _, _, _, _, _, _, h => h
  | i :: q, listed, a, w, hC, hq, hB, h => by
    simp only [pullB, Bool.and_eq_true] at hB
    obtain ⟨⟨⟨hr, hf⟩, hrd⟩, hB'⟩ := hB
    cases ho : ops[i]? with
    | none => rw [ho] at hrd; cases hrd
    | some o =>
      rw [ho] at hrd
      rw [List.map_cons, getD_of ho] at h
      obtain ⟨v, hy, hK⟩ := yieldsC_of_quiet hrd h
      exact wpAnyC_first ho (hq i (List.mem_cons_self ..)) (Region.noSelect_spec hs) hsuf (n + q.length) listed a w hC (Region.free_spec ho hf) (by simpa using hr) hy
        (wpAnyC_pull hs hsuf q _ _ w hC (fun k hk => hq k (List.mem_cons_of_mem _ hk)) hB' hK)

theorem wpQuiet_mono {Q Q' : Act → Prop} (hQ : ∀ a, Q a → Q' a) : ∀ (l : List Oper) (a : Act), wpQuiet P ops C Q l a → wpQuiet P ops C Q' l a
  | [], _, h => hQ _ h
  | o :: l, a, h => by
    unfold wpQuiet at h ⊢
    split
    · rename_i hw; rw [if_pos hw] at h; exact Oper.quiet_mono (fun a' h' => wpQuiet_mono hQ l a' h') h
    · rename_i hw; rw [if_neg hw] at h; exact wpQuiet_mono hQ l _ h

/-- THE LAW. q: the operations that only read (in an order in which they may come up); c: the makers of memory; N: how many they are; then the rest. -/
theorem wp_region_mix {id : Nat} {Q : Exit → Act → World → Prop} {a : Act} {w : World} (q c : List Nat) (N : Nat) {l : List Oper} (hm : P.follows .mixedOrders = true) (hN : ((q ++ c).length == N && decide (N ≤ l.length)) = true) (hB : mixB .any l.toArray q c N (l.drop N).length = true)
    (hC : C w.drew)
    (h : wpQuiet P l.toArray C (fun a' => wpChain P l.toArray C (fun a'' w'' => wpList P l.toArray Q (l.drop N) a'' w'') (c.map (fun i => l.getD i default)) a' w.drew) (q.map (fun i => l.getD i default)) a) : (Code.region id l.toArray true).wp P Q a w := by
  simp only [mixB, Bool.and_eq_true] at hB
  obtain ⟨⟨⟨⟨⟨hs, hw⟩, hp⟩, hc⟩, hl⟩, hq⟩ := hB
  have hsuf : ∀ (j : Nat) (o : Oper), j ∉ q ++ c → l.toArray[j]? = some o → ∀ i ∈ q ++ c, ∃ e ∈ o.after, Region.binds .any e = true ∧ e.on = i := by
    intro j o hj ho i hi
    simp only [waitsB, List.all_eq_true, List.mem_range] at hw
    have h1 := hw j (Array.getElem?_eq_some_iff.1 ho).1
    rw [ho] at h1
    simp only [Bool.or_eq_true, List.contains_iff_mem, List.all_eq_true] at h1
    rcases h1 with h1 | h1
    · exact absurd h1 hj
    · obtain ⟨e, he, hb⟩ := Array.any_eq_true'.1 (h1 i hi)
      simp only [Bool.and_eq_true, beq_iff_eq] at hb
      exact ⟨e, he, hb⟩
  have h2 : ∀ j, (l.drop N)[j]? = l.toArray[N + j]? := by intro j; simp
  have hfm : ∀ (x : List Nat), x.map (fun i => l.toArray.getD i default) = x.map (fun i => l.getD i default) := fun x => by congr 1; funext i; simp [List.getD_eq_getElem?_getD, Array.getD_eq_getD_getElem?]
  refine wp_region_any hm ?_
  have hch : ∀ a', wpChain P l.toArray C (fun a'' w'' => wpList P l.toArray Q (l.drop N) a'' w'') (c.map (fun i => l.getD i default)) a' w.drew →
      wpAnyC P .any l.toArray C (q ++ c) (fun listed a'' w'' => wpAny P .any l.toArray Q (l.drop N).length listed a'' w'') c.length (setAll q (Array.replicate l.toArray.size false)) a' w.drew := fun a' h' =>
    wpAnyC_chain c _ a' w.drew hc (fun i hi => List.all_eq_true.1 hl i hi) (fun a'' w'' hR => wpAny_seq (l.drop N) N _ a'' w'' h2 hq hR) (by rw [hfm]; exact h')
  have hpull := wpAnyC_pull (P := P) (R := fun listed a'' w'' => wpAny P .any l.toArray Q (l.drop N).length listed a'' w'') (n := c.length) hs hsuf q (Array.replicate l.toArray.size false) a w.drew hC (fun i hi => List.mem_append_left _ hi) hp (by
    rw [hfm]
    exact wpQuiet_mono hch _ _ h)
  have := wpAny_of_C (Q := Q) (rest := (l.drop N).length) (fun _ _ _ h => h) _ _ _ _ hpull
  simp only [Bool.and_eq_true, beq_iff_eq, decide_eq_true_eq, List.length_append] at hN
  have e : l.toArray.size = (l.drop N).length + (c.length + q.length) := by simp; omega
  rw [← e] at this
  exact this
end
end Go.Proofs.Qxb6609294a
