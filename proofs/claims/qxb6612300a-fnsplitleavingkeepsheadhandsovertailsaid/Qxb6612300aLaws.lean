/- Laws for the walks of this seat: whole rows (arrays, structs) read out of memory and laid into it, as rewriting rules; a region that draws its order, whose calls make memory. Nothing here speaks of one function. -/
import Derived.Test.Qxb6612300aIds
import Derived.Lib.BytesEntry
import Derived.Lib.Bytealg
namespace Go.Proofs.Qxb6612300a
open Go.RowKit
set_option linter.unusedVariables false

/-! ### Reading n cells at once, as a function -/
def rd (w : World) (b : Nat) : Nat → Nat → Option (List Value)
  | _, 0 => some []
  | o, n + 1 => match w.cell? ⟨b, o, none⟩ with
    | some v => (rd w b (o + 1) n).map (v :: ·)
    | none => none

theorem rd_iff {w : World} {b : Nat} : ∀ {n o : Nat} {cs : List Value}, rd w b o n = some cs ↔ cs.length = n ∧ w.rangeAt b o cs
  | 0, o, cs => by
    constructor
    · intro h; simp [rd] at h; subst h; exact ⟨rfl, fun j v hv => by simp at hv⟩
    · rintro ⟨h, _⟩; simp [rd, List.length_eq_zero_iff.1 h]
  | n + 1, o, cs => by
    constructor
    · intro h
      unfold rd at h
      cases hc : w.cell? ⟨b, o, none⟩ with
      | none => rw [hc] at h; cases h
      | some v =>
        rw [hc] at h
        cases hr : rd w b (o + 1) n with
        | none => rw [hr] at h; cases h
        | some cs' =>
          rw [hr] at h
          obtain ⟨hl, hra⟩ := rd_iff.1 hr
          simp only [Option.map_some, Option.some.injEq] at h
          subst h
          refine ⟨by simp [hl], fun j u hu => ?_⟩
          cases j with
          | zero => simpa [hc] using hu
          | succ j =>
            have := hra j u (by simpa using hu)
            rw [show o + (j + 1) = o + 1 + j from by omega]; exact this
    · rintro ⟨hl, hra⟩
      cases cs with
      | nil => simp at hl
      | cons v cs' =>
        have h0 := hra 0 v rfl
        have h1 : rd w b (o + 1) n = some cs' := rd_iff.2 ⟨by simpa using hl, fun j u hu => by
          have := hra (j + 1) u (by simpa using hu)
          rw [show o + 1 + j = o + (j + 1) from by omega]; exact this⟩
        unfold rd
        have h0' : w.cell? ⟨b, o, none⟩ = some v := h0
        rw [h0', h1]; rfl

theorem rd_congr {w w' : World} {b : Nat} : ∀ {n o : Nat}, (∀ j, j < n → w'.cell? ⟨b, o + j, none⟩ = w.cell? ⟨b, o + j, none⟩) → rd w' b o n = rd w b o n
  | 0, _, _ => rfl
  | n + 1, o, h => by
    unfold rd
    have h0 : w'.cell? ⟨b, o, none⟩ = w.cell? ⟨b, o, none⟩ := h 0 (by omega)
    have h1 : rd w' b (o + 1) n = rd w b (o + 1) n := rd_congr fun j hj => by
      have := h (j + 1) (by omega)
      rw [show o + 1 + j = o + (j + 1) from by omega]; exact this
    rw [h0, h1]

theorem rd_below {B : Nat} {w w' : World} (h : Below B w w') {b : Nat} (hb : b < B) (o n : Nat) : rd w' b o n = rd w b o n :=
  rd_congr fun _ _ => h.cell hb

theorem rd_drew (w : World) (b o n : Nat) : rd w.drew b o n = rd w b o n := rd_congr fun _ _ => rfl
theorem rd_drewN (w : World) (k b o n : Nat) : rd (w.drewN k) b o n = rd w b o n := rd_congr fun _ _ => rfl
theorem rd_alloc_past (w : World) (ob : Obj) (b o n : Nat) (h : b < w.heap.size) : rd (w.alloc ob) b o n = rd w b o n :=
  rd_congr fun j _ => World.cell?_alloc_past ob b (o + j) h
theorem rd_of {w : World} {b o n : Nat} {cs : List Value} (hl : cs.length = n) (h : w.rangeAt b o cs) : rd w b o n = some cs := rd_iff.2 ⟨hl, h⟩
theorem rd_alloc_at (w : World) (C : Array Value) (t b o n : Nat) (h : b = w.heap.size) (hn : o + n ≤ C.size) : rd (w.alloc (.cells C t)) b o n = some ((C.toList.drop o).take n) := by
  refine rd_of (by simp; omega) fun j v hv => ?_
  rw [World.cell?_alloc_at C t b (o + j) h]
  have hj : j < n := by have := (List.getElem?_eq_some_iff.1 hv).1; simp at this; omega
  rw [List.getElem?_take, if_pos hj, List.getElem?_drop] at hv
  simpa using hv
theorem rd_alloc_row (w : World) (cs : List Value) (t b n : Nat) (h : b = w.heap.size) (hn : cs.length = n) : rd (w.alloc (.cells cs.toArray t)) b 0 n = some cs := by
  rw [rd_alloc_at w cs.toArray t b 0 n h (by simp; omega)]
  simp [List.take_of_length_le (Nat.le_of_eq hn)]
theorem rd_sub {w : World} {b o n : Nat} {cs : List Value} (h : rd w b o n = some cs) (o' n' : Nat) (hn : o' + n' ≤ n) : rd w b (o + o') n' = some ((cs.drop o').take n') := by
  obtain ⟨hl, hr⟩ := rd_iff.1 h
  refine rd_of (by simp; omega) fun j v hv => ?_
  have hj : j < n' := by have := (List.getElem?_eq_some_iff.1 hv).1; simp at this; omega
  rw [List.getElem?_take, if_pos hj, List.getElem?_drop] at hv
  rw [show o + o' + j = o + (o' + j) from by omega]
  exact hr _ _ hv
theorem rd_split {w : World} {b o : Nat} {xs ys : List Value} (h : rd w b o (xs.length + ys.length) = some (xs ++ ys)) : rd w b o xs.length = some xs ∧ rd w b (o + xs.length) ys.length = some ys := by
  have h1 := rd_sub h 0 xs.length (by omega)
  have h2 := rd_sub h xs.length ys.length (by omega)
  simp at h1 h2
  exact ⟨h1, h2⟩
theorem rd_cell {w : World} {b o n : Nat} {cs : List Value} (h : rd w b o n = some cs) (k : Nat) (hk : k < n) : w.cell? ⟨b, o + k, none⟩ = cs[k]? := by
  obtain ⟨hl, hr⟩ := rd_iff.1 h
  have hk' : k < cs.length := by omega
  rw [List.getElem?_eq_getElem hk']
  exact hr k _ (List.getElem?_eq_getElem hk')
theorem rd_cell0 {w : World} {b n : Nat} {cs : List Value} (h : rd w b 0 n = some cs) (k : Nat) (hk : k < n) : w.cell? ⟨b, k, none⟩ = cs[k]? := by
  have := rd_cell h k hk; rwa [Nat.zero_add] at this
theorem rd_lt {w : World} {b o n : Nat} {cs : List Value} (h : rd w b o n = some cs) (hn : 0 < n) : b < w.heap.size := by
  obtain ⟨hl, hr⟩ := rd_iff.1 h
  have hk : 0 < cs.length := by omega
  exact World.block_lt_of_cell? w _ (hr 0 _ (List.getElem?_eq_getElem hk))

/-! ### A whole row loaded, stored: the operations behind names that the walk's rules leave standing -/
def ldA (t : TypeId) (v : Value) : Sem Next := do pure (.value (← Instr.loadAt t v))
def ldB (t : TypeId) (v : Value) : Sem Next := ldA t v
def stA (t : TypeId) (p v : Value) : Sem Next := do Instr.storeAt t p v; pure .skip
def alA (t : TypeId) : Sem Next := do pure (.value (← Instr.alloc t true (.tuple #[])))
def bldA (t : TypeId) (parts : Array (Nat × Value)) : Sem Next := do pure (.value (← Instr.build t parts))
def eqA (op : BinOp) (t : TypeId) (x y : Operand) (u v : Value) : Sem Next := do pure (.value (← (do eqGuard op t x y u v; binOp op t u v)))

theorem run_ldA {P : Program} {w : World} {b o n : Nat} {t : TypeId} {d : TypeDesc} (hu : P.underlying t = some d) (hd : d.isRow = true) (hi : (P.info? t).map (·.size) = some n) :
    (ldA t (.pointer (some ⟨b, o, none⟩))).run P w = match rd w b o n with | some cs => .ok (.value (.agg cs.toArray)) w | none => (ldB t (.pointer (some ⟨b, o, none⟩))).run P w := by
  cases h : rd w b o n with
  | none => rfl
  | some cs =>
    obtain ⟨hl, hr⟩ := rd_iff.1 h
    simp only [ldA, Sem.run_bind, run_loadAt_mid w b o t cs d hr hu hd (by rw [hi, hl]), Result.andThen_ok, Sem.run_pure]

/-- a fresh variable of a row's type is stored into whole: as if it had been laid so -/
theorem run_stA_new {P : Program} {w : World} {Z : Array Value} {cs : List Value} {t b n : Nat} (hb : b = w.heap.size) (hz : Z.size = n) (hl : cs.length = n) (h1 : ∀ v ∈ cs, v.oneCell' = true) (hi : (P.info? t).map (·.size) = some n) :
    (stA t (.pointer (some ⟨b, 0, none⟩)) (.agg cs.toArray)).run P (w.alloc (.cells Z t)) = .ok .skip (w.alloc (.cells cs.toArray t)) := by
  subst hb
  have hs := run_storeVar_row (P := P) (w.alloc (.cells Z t)) w.heap.size t t Z cs.toArray (heap_alloc_new w _) (by rw [hi]; simp [hl]) (by simp; omega) (all_oneCell_toArray h1)
  have e : (w.alloc (.cells Z t)).setRow w.heap.size cs.toArray = w.alloc (.cells cs.toArray t) := by
    unfold World.setRow World.alloc
    congr 1
    apply Array.ext_getElem?
    intro k
    simp only [Array.getElem?_modify, Array.getElem?_push]
    by_cases hk : k = w.heap.size
    · subst hk; simp
    · have hk' : ¬ w.heap.size = k := fun e => hk e.symm
      simp [hk, hk']
  rw [e] at hs
  simp only [stA, Instr.storeAt, Instr.sureAddr, Sem.run_bind, Sem.run_pure, Result.andThen_ok, hs]

/-- .. into the midst of a block -/
theorem run_stA_mid {P : Program} {w : World} {cs : List Value} {t b o n : Nat} (ht : w.there b o n) (hl : cs.length = n) (h1 : ∀ v ∈ cs, v.oneCell' = true) (hi : (P.info? t).map (·.size) = some n) :
    (stA t (.pointer (some ⟨b, o, none⟩)) (.agg cs.toArray)).run P w = .ok .skip (w.setCells b o cs) := by
  have hs := run_storeAt_mid (P := P) w b o t cs.toArray (by simpa [hl] using ht) (by rw [hi]; simp [hl]) (all_oneCell_toArray h1)
  simp only [stA, Sem.run_bind, hs, Result.andThen_ok, Sem.run_pure]

theorem one_cs8 (xs : List Int) : ∀ v ∈ cs8 xs, v.oneCell' = true := by
  intro v hv; simp only [cs8, List.mem_map] at hv; obtain ⟨x, _, rfl⟩ := hv; rfl

/-! ### Building a struct out of rows -/
theorem set_fold (off : Nat) : ∀ (vs : List Value) (k : Nat) (pre cells : List Value), pre.length = off + k → vs.length ≤ cells.length →
    ((vs.zipIdx k).foldl (fun (cs : Array Value) (p : Value × Nat) => cs.setIfInBounds (off + p.2) p.1) (pre ++ cells).toArray) = (pre ++ (vs ++ cells.drop vs.length)).toArray
  | [], k, pre, cells, _, _ => by simp
  | v :: vs, k, pre, [], _, h => by simp at h
  | v :: vs, k, pre, c :: cells, hp, h => by
    have ih := set_fold off vs (k + 1) (pre ++ [v]) cells (by simp [hp]; omega) (by simpa using h)
    simp only [List.zipIdx_cons, List.foldl_cons]
    have e : (pre ++ c :: cells).toArray.setIfInBounds (off + k) v = (pre ++ [v] ++ cells).toArray := by
      simp only [List.setIfInBounds_toArray]
      congr 1
      rw [← hp, List.set_append_right _ _ (Nat.le_refl _)]
      simp
    rw [e, ih]
    simp

theorem fill_part {place : Nat → Option (Nat × Nat)} {pre old post vs : List Value} {V : Value} {i off size : Nat} {rest : List (Nat × Value)} (hv : V.cells = vs.toArray) (hp : place i = some (off, size)) (h1 : pre.length = off) (h2 : old.length = size) (h3 : vs.length = size) :
    Instr.fill place (pre ++ (old ++ post)).toArray ((i, V) :: rest) = Instr.fill place (pre ++ (vs ++ post)).toArray rest := by
  have hz := set_fold off vs 0 pre (old ++ post) (by omega) (by simp; omega)
  have e : (List.drop vs.length (old ++ post)) = post := by
    rw [List.drop_append_of_le_length (by omega), List.drop_eq_nil_of_le (by omega), List.nil_append]
  rw [e] at hz
  conv => lhs; unfold Instr.fill
  simp only [hp, hv, List.size_toArray, h3, ne_eq, not_true_eq_false, decide_false, Bool.false_or, List.length_append]
  rw [if_neg (by simp; omega)]
  congr 1
  rw [← hz, ← Array.foldl_toList]
  simp

/-! ### A region that draws its order, whose operations only read and whose calls may make memory -/
/-- A world that comes behind W: all that lay in W lies there yet. -/
structure Later (W : World) where
  to : World
  bel : Below W.heap.size W to

theorem Later.cell {W : World} (z : Later W) (b o : Nat) (h : b < W.heap.size) : z.to.cell? ⟨b, o, none⟩ = W.cell? ⟨b, o, none⟩ := z.bel.cell (p := ⟨b, o, none⟩) h
theorem Later.rd {W : World} (z : Later W) (b o n : Nat) (h : b < W.heap.size) : Qxb6612300a.rd z.to b o n = Qxb6612300a.rd W b o n := rd_below z.bel h o n

theorem wp_region_later {P : Program} {id : Nat} {Q : Exit → Act → World → Prop} {a : Act} {w : World} {l : List Oper} (hm : P.follows .mixedOrders = true) (hB : Region.lexB .any l.toArray = true)
    (h : wpQuiet P l.toArray (fun w' => ∃ z : Later w, w' = z.to) (fun a' => ∀ w', (∃ z : Later w, w' = z.to) → Q .normal a' w') l a) : (Code.region id l.toArray true).wp P Q a w :=
  wp_region_quiet (C := fun w' => ∃ z : Later w, w' = z.to) hm hB ⟨⟨w.drew, (Below.refl _ _).drew⟩, rfl⟩ (by simpa using h)

theorem later_of {P : Program} {f : FuncId} {args : Array Value} {W : World} (z : Later W) {v : Value}
    (h : Calls P f args z.to fun e w' => e = .returned v ∧ Below z.to.heap.size z.to w') : Calls P f args z.to fun e w'' => e = .returned v ∧ ∃ z' : Later W, w'' = z'.to :=
  h.mono fun _ w' ⟨he, hb⟩ => ⟨he, ⟨w', z.bel.trans (hb.mono z.bel.size)⟩, rfl⟩
theorem later_of_same {P : Program} {f : FuncId} {args : Array Value} {W : World} (z : Later W) {v : Value}
    (h : Calls P f args z.to fun e w' => e = .returned v ∧ w' = z.to) : Calls P f args z.to fun e w'' => e = .returned v ∧ ∃ z' : Later W, w'' = z'.to :=
  h.mono fun _ w' ⟨he, hb⟩ => ⟨he, z, hb⟩

/-! ### Equality of rows of bytes -/
theorem forIn_idx {P : Program} (body : Nat → (Option Bool × Unit) → Sem (ForInStep (Option Bool × Unit))) (g : Nat → Bool) (w : World) :
    ∀ (l : List Nat), (∀ i ∈ l, ∀ r, (body i r).run P w = .ok (if g i then .yield (none, ()) else .done (some false, ())) w) →
      (forIn l ((none, ()) : Option Bool × Unit) body).run P w = .ok (if l.all g then (none, ()) else (some false, ())) w
  | [], _ => by simp
  | i :: l, h => by
    have ih := forIn_idx body g w l (fun k hk r => h k (List.mem_cons_of_mem _ hk) r)
    rw [List.forIn_cons, Sem.run_bind, h i (List.mem_cons_self ..)]
    cases hg : g i
    · simp [hg]
    · simp only [if_true, Result.andThen_ok, List.all_cons, hg, Bool.true_and]
      exact ih

theorem all_range_eq : ∀ (xs ys : List Int), xs.length = ys.length → (List.range' 0 xs.length).all (fun i => xs.getD i 0 == ys.getD i 0) = (xs == ys) := by
  intro xs ys h
  rw [Bool.eq_iff_iff, beq_iff_eq, List.all_eq_true]
  constructor
  · intro ha
    refine List.ext_getElem h fun i h1 h2 => ?_
    have := ha i (by simp; omega)
    simpa [List.getD, h1, h2] using this
  · rintro rfl i _; exact beq_self_eq_true _

theorem run_equalIn_bytes {P : Program} (w : World) (d : Nat) (t e n : Nat) (xs ys : List Int) (ht : P.underlying t = some (.array n e)) (he : P.underlying e = some (.int .u8)) (hs : (P.info? e).map (·.size) = some 1) (hx : xs.length = n) (hy : ys.length = n) :
    (Op.equalIn (d + 2) t (.agg (cs8 xs).toArray) (.agg (cs8 ys).toArray)).run P w = .ok (xs == ys) w := by
  obtain ⟨i, hi, hi1⟩ : ∃ i, P.info? e = some i ∧ i.size = 1 := by
    cases h : P.info? e with
    | none => simp [h] at hs
    | some i => exact ⟨i, rfl, by simpa [h] using hs⟩
  have hpart : ∀ (zs : List Int) (k : Nat) (w : World), k < zs.length → (part e (cs8 zs).toArray k).run P w = .ok (.int .u8 (zs.getD k 0)) w := by
    intro zs k w hk
    simp [part, isAgg, Sem.run_bind, run_underlying he, cs8, List.getD, hk]
  rw [Op.equalIn]
  simp only [Sem.run_bind, run_underlying ht, Result.andThen_ok, sizeOf, typeInfo, run_program, hi, hi1, Sem.run_pure]
  rw [Std.Legacy.Range.forIn_eq_forIn_range']
  rw [forIn_idx _ (fun i => xs.getD i 0 == ys.getD i 0) w _ (fun k hk r => by
    have hk' : k < n := by simpa [Std.Legacy.Range.size] using hk
    simp only [Nat.mul_one, Sem.run_bind, hpart xs k w (by omega), hpart ys k w (by omega), Result.andThen_ok, run_equalIn_int w d e .u8 .u8 _ _ he]
    cases xs.getD k 0 == ys.getD k 0 <;> simp)]
  have e : List.range' 0 n = List.range' 0 xs.length := by rw [hx]
  simp only [Std.Legacy.Range.size, Nat.sub_zero, Nat.add_sub_cancel, Nat.div_one, e, all_range_eq xs ys (by omega)]
  cases xs == ys <;> simp

end Go.Proofs.Qxb6612300a
