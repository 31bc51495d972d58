/- The solver's memory: one block of sixteen cells; rows that it owns, each in a block of its own; how appends and stores turn them. -/
import Derived.Test.Qxb6609294aMix
import Derived.Deep.AppendLies
import Derived.OneCell
namespace Go.Proofs.Qxb6609294a
open Go.RowKit
set_option linter.unusedVariables false

abbrev nilS : Value := .slice none 0 0
def upd {α : Type} (f : Nat → α) (k : Nat) (v : α) : Nat → α := fun l => if l = k then v else f l
theorem upd_same {α : Type} (f : Nat → α) (k : Nat) (v : α) : upd f k v k = v := by simp [upd]
theorem upd_ne {α : Type} (f : Nat → α) {k l : Nat} (v : α) (h : l ≠ k) : upd f k v l = f l := by simp [upd, h]

/-- the type of a row's elements; from 16 on: the rows of the watches -/
def E (k : Nat) : TypeId := if k = 0 then 29 else if k = 1 then 28 else if k = 2 then 44 else if k = 5 then 42 else if k = 8 then 40 else if k = 10 then 34 else if k = 12 then 4 else 3

theorem ownsRow_keep {w w' : World} {b : Nat} {e : TypeId} {v : Value} {n : Nat} {xs : List Value} (h : w.ownsRow b e 1 v n xs) (hk : ∀ g, v.ownBlock = some g → w'.heap[g]? = w.heap[g]?) : w'.ownsRow b e 1 v n xs := by
  refine ⟨h.1, ?_⟩
  rcases h.2 with hn | ⟨g, cap, cur, rfl, hb, hgg, rest⟩
  · exact .inl hn
  · exact .inr ⟨g, cap, cur, rfl, hb, by rw [hk g rfl]; exact hgg, rest⟩

structure Owns (w : World) (b : Nat) (V : Nat → Value) (X : Nat → List Value) : Prop where
  row : ∀ k, w.ownsRow b (E k) 1 (V k) (X k).length (X k)
  apart : ∀ k l g, k ≠ l → (V k).ownBlock = some g → (V l).ownBlock ≠ some g

theorem Owns.keep {w w' : World} {b : Nat} {V : Nat → Value} {X : Nat → List Value} (h : Owns w b V X) (hk : ∀ k g, (V k).ownBlock = some g → w'.heap[g]? = w.heap[g]?) : Owns w' b V X :=
  ⟨fun k => ownsRow_keep (h.row k) (hk k), h.apart⟩

theorem Owns.lt {w : World} {b : Nat} {V : Nat → Value} {X : Nat → List Value} (h : Owns w b V X) {k g : Nat} (hg : (V k).ownBlock = some g) : b ≤ g ∧ g < w.heap.size := (h.row k).lt g hg

theorem Owns.put {w w' : World} {b : Nat} {V : Nat → Value} {X : Nat → List Value} (h : Owns w b V X) (k : Nat) {v : Value} {xs : List Value} (hnew : w'.ownsRow b (E k) 1 v xs.length xs)
    (hkeep : ∀ l g, l ≠ k → (V l).ownBlock = some g → w'.heap[g]? = w.heap[g]?) (hap : ∀ l g, l ≠ k → (V l).ownBlock = some g → v.ownBlock ≠ some g) : Owns w' b (upd V k v) (upd X k xs) := by
  refine ⟨fun l => ?_, fun l m g hlm hl => ?_⟩
  · by_cases hl : l = k
    · subst hl; rw [upd_same, upd_same]; exact hnew
    · rw [upd_ne _ _ hl, upd_ne _ _ hl]; exact ownsRow_keep (h.row l) (fun g hg => hkeep l g hl hg)
  · by_cases hl' : l = k
    · subst hl'
      rw [upd_same] at hl
      rw [upd_ne _ _ (Ne.symm hlm)]
      exact fun hm => hap m g (Ne.symm hlm) hm hl
    · rw [upd_ne _ _ hl'] at hl
      by_cases hm : m = k
      · subst hm; rw [upd_same]; exact hap l g hl' hl
      · rw [upd_ne _ _ hm]; exact h.apart l m g hlm hl

/-- behind an append onto row k -/
theorem Owns.appended {w w' : World} {b : Nat} {V : Nat → Value} {X : Nat → List Value} (h : Owns w b V X) (k : Nat) {g n cap : Nat} {xs : List Value} (hx : xs.length = n)
    (hnew : w'.ownsRow b (E k) 1 (.slice (some ⟨g, 0, none⟩) n cap) n xs) (hg : w.grownBy w' (V k).ownBlock) (hat : (V k).ownBlock = some g ∨ g = w.heap.size) : Owns w' b (upd V k (.slice (some ⟨g, 0, none⟩) n cap)) (upd X k xs) := by
  refine h.put k (by rw [hx]; exact hnew) (fun l g' hl hg' => hg.block g' (h.lt hg').2 (fun e => h.apart l k g' hl hg' e.symm)) (fun l g' hl hg' e => ?_)
  have e' : g = g' := by simpa [Value.ownBlock] using e
  subst e'
  rcases hat with hat | hat
  · exact h.apart l k g hl hg' hat
  · have := (h.lt hg').2; omega

def solCells (V : Nat → Value) (h : Int) (f : Bool) : List Value :=
  [V 0, V 1, V 2, V 3, V 4, V 5, V 6, .int .i64 h, V 8, V 9, V 10, .float .f64 0, V 12, .slice none 0 0, .map none, .bool f]

structure Sol (w : World) (p : Nat) (V : Nat → Value) (X : Nat → List Value) (h : Int) (f : Bool) : Prop where
  blk : w.heap[p]? = some (.cells (solCells V h f).toArray 39 (0, 0))
  own : Owns w (p + 1) V X
  tie : ∀ i, V (16 + i) = (X 1).getD i nilS

/-- what else was there is as it was -/
structure Fr (p : Nat) (V : Nat → Value) (w : World) (V' : Nat → Value) (w' : World) : Prop where
  os : w'.os = w.os
  tape : w'.tape = w.tape
  output : w'.output = w.output
  size : w.heap.size ≤ w'.heap.size
  block : ∀ k, k < w.heap.size → k ≠ p → (∀ l, (V l).ownBlock ≠ some k) → w'.heap[k]? = w.heap[k]?
  new : ∀ l g, (V' l).ownBlock = some g → (∃ l', (V l').ownBlock = some g) ∨ w.heap.size ≤ g

theorem Fr.refl (p : Nat) (V : Nat → Value) (w : World) : Fr p V w V w := ⟨rfl, rfl, rfl, Nat.le_refl _, fun _ _ _ _ => rfl, fun l g h => .inl ⟨l, h⟩⟩
theorem Fr.trans {p : Nat} {V V' V'' : Nat → Value} {w w' w'' : World} (h : Fr p V w V' w') (k : Fr p V' w' V'' w'') : Fr p V w V'' w'' := by
  refine ⟨k.os.trans h.os, k.tape.trans h.tape, k.output.trans h.output, Nat.le_trans h.size k.size, fun b hb hp hl => ?_, fun l g hg => ?_⟩
  · rw [k.block b (Nat.lt_of_lt_of_le hb h.size) hp (fun l hg => ?_), h.block b hb hp hl]
    rcases h.new l b hg with ⟨l', h'⟩ | h'
    · exact hl l' h'
    · omega
  · rcases k.new l g hg with ⟨l', h'⟩ | h'
    · exact h.new l' g h'
    · exact .inr (Nat.le_trans h.size h')
/-- blocks that were there are as they were: nothing of the solver is turned -/
theorem Fr.of_below {p : Nat} {V : Nat → Value} {w w' : World} (h : Below w.heap.size w w') : Fr p V w V w' := ⟨h.os, h.tape, h.output, h.size, fun k hk _ _ => h.block k hk, fun l g h => .inl ⟨l, h⟩⟩
theorem Fr.below {p : Nat} {V V' : Nat → Value} {X : Nat → List Value} {hd : Int} {f : Bool} {w w' : World} (h : Fr p V w V' w') (S : Sol w p V X hd f) {B : Nat} (hB : B ≤ p) : Below B w w' :=
  ⟨h.os, h.tape, h.output, h.size, fun k hk => h.block k (by have := lt_of_block S.blk; omega) (by omega) (fun l e => by have := (S.own.lt e).1; omega)⟩
/-- a block that the solver does not own -/
def Free (p : Nat) (V : Nat → Value) (w : World) (b : Nat) : Prop := b < w.heap.size ∧ b ≠ p ∧ ∀ l, (V l).ownBlock ≠ some b
theorem Free.fr {p : Nat} {V V' : Nat → Value} {w w' : World} {b : Nat} (h : Free p V w b) (k : Fr p V w V' w') : Free p V' w' b ∧ w'.heap[b]? = w.heap[b]? := by
  refine ⟨⟨Nat.lt_of_lt_of_le h.1 k.size, h.2.1, fun l hg => ?_⟩, k.block b h.1 h.2.1 h.2.2⟩
  rcases k.new l b hg with ⟨l', h'⟩ | h'
  · exact h.2.2 l' h'
  · have := h.1; omega
theorem Free.new {p : Nat} {V : Nat → Value} {X : Nat → List Value} {hd : Int} {f : Bool} {w w' : World} (S : Sol w p V X hd f) {b : Nat} (hb : w.heap.size ≤ b) (hb' : b < w'.heap.size) : Free p V w' b :=
  ⟨hb', by have := lt_of_block S.blk; omega, fun l e => by have := (S.own.lt e).2; omega⟩

section
variable {w : World} {p : Nat} {V : Nat → Value} {X : Nat → List Value} {h : Int} {f : Bool}

theorem Sol.lt (S : Sol w p V X h f) : p < w.heap.size := lt_of_block S.blk
theorem Sol.cell (S : Sol w p V X h f) (i : Nat) : w.cell? ⟨p, i, none⟩ = (solCells V h f)[i]? := by
  rw [cell_of_row w p i _ 39 (0, 0) S.blk]; simp
theorem Sol.frozen (S : Sol w p V X h f) (i : Nat) : w.frozen? ⟨p, i, none⟩ = false := frozen_of_row w p i _ 39 S.blk

theorem Sol.below (S : Sol w p V X h f) {w' : World} (hb : Below w.heap.size w w') : Sol w' p V X h f :=
  ⟨by rw [hb.block p S.lt]; exact S.blk, S.own.keep (fun k g hg => hb.block g (S.own.lt hg).2), S.tie⟩

theorem Sol.form (S : Sol w p V X h f) (k : Nat) : ∃ a c, V k = .slice a (X k).length c := by
  rcases (S.own.row k).2 with ⟨h1, h2⟩ | ⟨g, cap, cur, h1, _⟩
  · exact ⟨none, 0, by rw [h1, h2]⟩
  · exact ⟨_, cap, h1⟩
theorem Sol.form1 (S : Sol w p V X h f) (k : Nat) (hk : 0 < (X k).length) : ∃ g c, V k = .slice (some ⟨g, 0, none⟩) (X k).length c ∧ p + 1 ≤ g ∧ g < w.heap.size := by
  obtain ⟨g, cap, h1, h2, h3⟩ := (S.own.row k).form hk
  exact ⟨g, cap, h1, h2, h3⟩

/-- which cells are slices -/
def slot (j : Nat) : Bool := j == 0 || j == 1 || j == 2 || j == 3 || j == 4 || j == 5 || j == 6 || j == 8 || j == 9 || j == 10 || j == 12
theorem solCells_upd {j : Nat} (hj : slot j = true) (v : Value) : (solCells V h f).set j v = solCells (upd V j v) h f := by
  simp only [slot, Bool.or_eq_true, beq_iff_eq] at hj
  rcases hj with (((((((((rfl | rfl) | rfl) | rfl) | rfl) | rfl) | rfl) | rfl) | rfl) | rfl) | rfl <;> rfl
theorem slot_lt {j : Nat} (hj : slot j = true) : j < 16 := by
  simp only [slot, Bool.or_eq_true, beq_iff_eq] at hj
  omega
theorem solCells_upd_far {j : Nat} (hj : 16 ≤ j) (v : Value) : solCells (upd V j v) h f = solCells V h f := by
  simp only [solCells]
  repeat rw [upd_ne _ _ (by omega)]

/-- a store into one of the solver's own cells -/
theorem Sol.stored {w2 : World} {V' : Nat → Value} {X' : Nat → List Value} {j : Nat} {v : Value} {h' : Int} {f' : Bool} (hb : w2.heap[p]? = some (.cells (solCells V h f).toArray 39 (0, 0))) (ho : Owns w2 (p + 1) V' X') (ht : ∀ i, V' (16 + i) = (X' 1).getD i nilS)
    (hc : (solCells V h f).set j v = solCells V' h' f') : Sol (w2.setCell ⟨p, j, none⟩ v) p V' X' h' f' := by
  refine ⟨?_, ⟨fun k => ownsRow_setCell_below (ho.row k) (by simp) v, ho.apart⟩, ht⟩
  rw [heap_setCell_same w2 p j _ 39 v hb, ← hc]
  simp

theorem Sol.head (S : Sol w p V X h f) (h' : Int) : Sol (w.setCell ⟨p, 7, none⟩ (.int .i64 h')) p V X h' f ∧ Fr p V w V (w.setCell ⟨p, 7, none⟩ (.int .i64 h')) :=
  ⟨Sol.stored S.blk S.own S.tie rfl, ⟨rfl, rfl, rfl, by simp [World.setCell], fun k _ hk _ => Below.heap_setCell _ _ _ _ hk, fun l g h => .inl ⟨l, h⟩⟩⟩
theorem Sol.fail (S : Sol w p V X h f) (f' : Bool) : Sol (w.setCell ⟨p, 15, none⟩ (.bool f')) p V X h f' ∧ Fr p V w V (w.setCell ⟨p, 15, none⟩ (.bool f')) :=
  ⟨Sol.stored S.blk S.own S.tie rfl, ⟨rfl, rfl, rfl, by simp [World.setCell], fun k _ hk _ => Below.heap_setCell _ _ _ _ hk, fun l g h => .inl ⟨l, h⟩⟩⟩

theorem Owns.grown_p {w' : World} (S : Sol w p V X h f) (k : Nat) (hg : w.grownBy w' (V k).ownBlock) : w'.heap[p]? = w.heap[p]? :=
  hg.block p S.lt (fun e => by have := (S.own.lt e.symm).1; omega)

/-- append onto a field's row, and the store of the new slice -/
theorem Sol.push (S : Sol w p V X h f) {j : Nat} (hj : slot j = true) {w' : World} {g n cap : Nat} {news : List Value} (hn : (X j ++ news).length = n) (hnil : j = 1 → ∀ u ∈ news, u = nilS)
    (hnew : w'.ownsRow (p + 1) (E j) 1 (.slice (some ⟨g, 0, none⟩) n cap) n (X j ++ news)) (hg : w.grownBy w' (V j).ownBlock) (hat : (V j).ownBlock = some g ∨ g = w.heap.size) :
    Sol (w'.setCell ⟨p, j, none⟩ (.slice (some ⟨g, 0, none⟩) n cap)) p (upd V j (.slice (some ⟨g, 0, none⟩) n cap)) (upd X j (X j ++ news)) h f ∧
    Fr p V w (upd V j (.slice (some ⟨g, 0, none⟩) n cap)) (w'.setCell ⟨p, j, none⟩ (.slice (some ⟨g, 0, none⟩) n cap)) := by
  have hj16 := slot_lt hj
  refine ⟨Sol.stored (by rw [Owns.grown_p S j hg]; exact S.blk) (S.own.appended j hn hnew hg hat) (fun i => ?_) (solCells_upd hj _), ⟨hg.os, hg.tape, hg.output, by simp [World.setCell]; exact hg.size, fun k hk hp hl => ?_, fun l g' hg' => ?_⟩⟩
  · rw [upd_ne _ _ (by omega), S.tie i]
    by_cases h1 : j = 1
    · subst h1
      rw [upd_same]
      simp only [List.getD_eq_getElem?_getD]
      rcases Nat.lt_or_ge i (X 1).length with hi | hi
      · rw [List.getElem?_append_left hi]
      · rw [List.getElem?_append_right hi, List.getElem?_eq_none hi]
        cases hu : news[i - (X 1).length]? with
        | none => rfl
        | some u => exact (hnil rfl u (List.mem_of_getElem? hu)).symm
    · rw [upd_ne _ _ (fun e => h1 e.symm)]
  · rw [Below.heap_setCell _ _ _ _ hp]
    exact hg.block k hk (fun e => hl j e.symm)
  · by_cases hl : l = j
    · subst hl
      rw [upd_same] at hg'
      have e' : g = g' := by simpa [Value.ownBlock] using hg'
      subst e'
      rcases hat with hat | hat
      · exact .inl ⟨l, hat⟩
      · exact .inr (by omega)
    · rw [upd_ne _ _ hl] at hg'
      exact .inl ⟨l, hg'⟩

/-- a store into a row (not the watches') -/
theorem Sol.put (S : Sol w p V X h f) {k : Nat} (hk : k ≠ 1) (hk16 : k < 16) {g n cap : Nat} (hv : V k = .slice (some ⟨g, 0, none⟩) n cap) (hn : (X k).length = n) (i : Nat) (u : Value) :
    Sol (w.setCell ⟨g, i, none⟩ u) p V (upd X k ((X k).set i u)) h f ∧ Fr p V w V (w.setCell ⟨g, i, none⟩ u) := by
  have hrow := S.own.row k
  rw [hv, hn] at hrow
  obtain ⟨h1, h2⟩ := hrow.stored i u
  have hob : (V k).ownBlock = some g := by rw [hv]; rfl
  have hgp := (S.own.lt hob).1
  have e : upd V k (.slice (some ⟨g, 0, none⟩) n cap) = V := by funext l; by_cases hl : l = k <;> simp [upd, hl, hv]
  have ho := S.own.appended k (by simpa using hn) h1 (by rw [hob]; exact h2) (.inl hob)
  rw [e] at ho
  refine ⟨⟨by rw [h2.block p S.lt (fun e => by simp at e; omega)]; exact S.blk, ho, fun i => by rw [upd_ne _ _ (Ne.symm hk)]; exact S.tie i⟩, ⟨rfl, rfl, rfl, by simp [World.setCell], fun b hb hp hl => h2.block b hb (fun e => hl k (by rw [hob]; exact e.symm)), fun l g h => .inl ⟨l, h⟩⟩⟩

/-- a store of nil into the watches, at a place that holds nil -/
theorem Sol.putNil (S : Sol w p V X h f) {g n cap : Nat} (hv : V 1 = .slice (some ⟨g, 0, none⟩) n cap) (hn : (X 1).length = n) (i : Nat) (hi : i < n) (hw : V (16 + i) = nilS) :
    Sol (w.setCell ⟨g, i, none⟩ nilS) p V X h f ∧ Fr p V w V (w.setCell ⟨g, i, none⟩ nilS) := by
  have hrow := S.own.row 1
  rw [hv, hn] at hrow
  obtain ⟨h1, h2⟩ := hrow.stored i nilS
  have hob : (V 1).ownBlock = some g := by rw [hv]; rfl
  have hgp := (S.own.lt hob).1
  have e : upd V 1 (.slice (some ⟨g, 0, none⟩) n cap) = V := by funext l; by_cases hl : l = 1 <;> simp [upd, hl, hv]
  have ex : (X 1).set i nilS = X 1 := by
    have := S.tie i
    rw [hw] at this
    apply List.ext_getElem?
    intro j
    by_cases hj : j = i
    · subst hj
      rw [List.getElem?_set_self (by omega)]
      simp only [List.getD_eq_getElem?_getD, List.getElem?_eq_getElem (show j < (X 1).length by omega), Option.getD_some] at this ⊢
      rw [this]
    · rw [List.getElem?_set_ne (Ne.symm hj)]
  rw [ex] at h1
  have e2 : upd X 1 (X 1) = X := by funext l; by_cases hl : l = 1 <;> simp [upd, hl]
  have ho := S.own.appended 1 hn h1 (by rw [hob]; exact h2) (.inl hob)
  rw [e, e2] at ho
  refine ⟨⟨by rw [h2.block p S.lt (fun e => by simp at e; omega)]; exact S.blk, ho, S.tie⟩, ⟨rfl, rfl, rfl, by simp [World.setCell], fun b hb hp hl => h2.block b hb (fun e => hl 1 (by rw [hob]; exact e.symm)), fun l g h => .inl ⟨l, h⟩⟩⟩

/-- append onto a watch's row, and the store of the new slice among the watches -/
theorem Sol.watch (S : Sol w p V X h f) {g1 n1 cap1 : Nat} (hv : V 1 = .slice (some ⟨g1, 0, none⟩) n1 cap1) (hn1 : (X 1).length = n1) (i : Nat) (hi : i < n1) {w' : World} {g n cap : Nat} {xs : List Value} (hn : xs.length = n)
    (hnew : w'.ownsRow (p + 1) (E (16 + i)) 1 (.slice (some ⟨g, 0, none⟩) n cap) n xs) (hg : w.grownBy w' (V (16 + i)).ownBlock) (hat : (V (16 + i)).ownBlock = some g ∨ g = w.heap.size) :
    Sol (w'.setCell ⟨g1, i, none⟩ (.slice (some ⟨g, 0, none⟩) n cap)) p (upd V (16 + i) (.slice (some ⟨g, 0, none⟩) n cap)) (upd (upd X (16 + i) xs) 1 ((X 1).set i (.slice (some ⟨g, 0, none⟩) n cap))) h f ∧
    Fr p V w (upd V (16 + i) (.slice (some ⟨g, 0, none⟩) n cap)) (w'.setCell ⟨g1, i, none⟩ (.slice (some ⟨g, 0, none⟩) n cap)) := by
  have ho := S.own.appended (16 + i) hn hnew hg hat
  have hob : (V 1).ownBlock = some g1 := by rw [hv]; rfl
  have hgp := (S.own.lt hob).1
  have hrow := ho.row 1
  rw [upd_ne _ _ (by omega), upd_ne _ _ (by omega), hv, hn1] at hrow
  obtain ⟨h1, h2⟩ := hrow.stored i (.slice (some ⟨g, 0, none⟩) n cap)
  have ho2 := ho.appended 1 (xs := (X 1).set i (.slice (some ⟨g, 0, none⟩) n cap)) (by simpa using hn1) h1 (by rw [upd_ne _ _ (by omega), hob]; exact h2) (.inl (by rw [upd_ne _ _ (by omega), hob]))
  have e : upd (upd V (16 + i) (.slice (some ⟨g, 0, none⟩) n cap)) 1 (.slice (some ⟨g1, 0, none⟩) n1 cap1) = upd V (16 + i) (.slice (some ⟨g, 0, none⟩) n cap) := by
    funext l
    by_cases hl : l = 1
    · subst hl; rw [upd_same, upd_ne _ _ (by omega), hv]
    · rw [upd_ne _ _ hl]
  rw [e] at ho2
  refine ⟨⟨?_, ho2, fun j => ?_⟩, ⟨hg.os, hg.tape, hg.output, by simp [World.setCell]; exact hg.size, fun k hk hp hl => ?_, fun l g' hg' => ?_⟩⟩
  · rw [h2.block p (Nat.lt_of_lt_of_le S.lt hg.size) (fun e => by simp at e; omega), Owns.grown_p S _ hg, solCells_upd_far (by omega)]
    exact S.blk
  · rw [upd_same]
    by_cases hj : j = i
    · subst hj
      rw [upd_same]
      simp [List.getD_eq_getElem?_getD, show j < (X 1).length by omega]
    · rw [upd_ne _ _ (by omega), S.tie j]
      simp only [List.getD_eq_getElem?_getD, List.getElem?_set_ne (Ne.symm hj)]
  · rw [h2.block k (Nat.lt_of_lt_of_le hk hg.size) (fun e => hl 1 (by rw [hob]; exact e.symm))]
    exact hg.block k hk (fun e => hl _ e.symm)
  · by_cases hl : l = 16 + i
    · subst hl
      rw [upd_same] at hg'
      have e' : g = g' := by simpa [Value.ownBlock] using hg'
      subst e'
      rcases hat with hat | hat
      · exact .inl ⟨_, hat⟩
      · exact .inr (by omega)
    · rw [upd_ne _ _ hl] at hg'
      exact .inl ⟨l, hg'⟩
/-- THE LAW: append onto a field's row, at the list of a region's operations. -/
theorem wpList_push {P : Program} {ops : Array Oper} {rest : List Oper} {o : Oper} {a : Act} {Q : Exit → Act → World → Prop} (S : Sol w p V X h f) (j n : Nat) (hj : slot j = true) (hn : (X j).length = n) (hgd : o.guard = none) (s x : Operand) (t : TypeId)
    (ho : o.op = .call { callee := .builtin .append, args := #[s, x], argTypes := #[t, t] }) (ht : P.underlying t = some (.slice (E j))) {z : Value} {bytes : Nat} (hi : (P.info? (E j)).map (fun i => (i.zero, i.size, i.bytes)) = some (some z, 1, bytes)) (hzs : z.cells.size = 1) (hbt : bytes ≤ 24)
    (news : List Value) (m : Nat) (hm : news.length = m) (h0 : 0 < m) (hsm : n + m ≤ 1000000) (h1 : ∀ u ∈ news, u.oneCell' = true) (hnil : j = 1 → ∀ u ∈ news, u = nilS)
    (v0 : Value) (hv0 : V j = v0) (hs : a.eval s = v0) (B c : Nat) (hx : a.eval x = .slice (some ⟨B, 0, none⟩) m c) (tt : TypeId) (fr : Nat × Nat) (hB : w.heap[B]? = some (.cells news.toArray tt fr))
    (k : ∀ g cap w2, (∀ i, w2.cell? ⟨p, i, none⟩ = (solCells V h f)[i]?) → (∀ i, w2.frozen? ⟨p, i, none⟩ = false) →
      Sol (w2.setCell ⟨p, j, none⟩ (.slice (some ⟨g, 0, none⟩) (n + m) cap)) p (upd V j (.slice (some ⟨g, 0, none⟩) (n + m) cap)) (upd X j (X j ++ news)) h f →
      Fr p V w (upd V j (.slice (some ⟨g, 0, none⟩) (n + m) cap)) (w2.setCell ⟨p, j, none⟩ (.slice (some ⟨g, 0, none⟩) (n + m) cap)) →
      wpList P ops Q rest (a.put o.dst (.slice (some ⟨g, 0, none⟩) (n + m) cap)) w2) : wpList P ops Q (o :: rest) a w := by
  obtain ⟨i, hi, hz, hz1, hz2⟩ := info_parts hi
  have hrow := S.own.row j
  rw [hn, hv0] at hrow
  refine wpList_append_lies w hgd s x t ho (p + 1) (E j) i z 1 bytes ht hi hz hz1 hz2 hzs (by decide) v0 n (X j) hs hrow ⟨B, 0, none⟩ m c news hx (by omega)
    (World.news_of_block hB) h1 h0 (by unfold maxLen; omega) ?_ S.lt w.heap.size rfl ?_
  · have : (n + m) * bytes ≤ 1000000 * 24 := Nat.mul_le_mul hsm hbt
    omega
  · intro g cap w2 hown hgrow hat hlt
    rw [← hv0] at hgrow hat
    have hp := Owns.grown_p S j hgrow
    obtain ⟨h1, h2⟩ := S.push hj (by simp [hm, hn]) hnil hown hgrow hat
    exact k g cap w2 (fun i => (World.cell?_of_block (a := ⟨p, i, none⟩) hp).trans (S.cell i)) (fun i => (World.frozen?_of_block (a := ⟨p, i, none⟩) hp).trans (S.frozen i)) h1 h2
end
end Go.Proofs.Qxb6609294a
