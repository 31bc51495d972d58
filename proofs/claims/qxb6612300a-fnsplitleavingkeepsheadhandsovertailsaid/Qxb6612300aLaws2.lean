/- More laws for the walks of this seat: rows stored into the midst of a block, 'make', 'copy' of rows. -/
import Derived.Test.Qxb6612300aLaws
namespace Go.Proofs.Qxb6612300a
open Go.RowKit
set_option linter.unusedVariables false

theorem rd_setCells_same {w : World} {b o n : Nat} {vs : List Value} (ht : w.there b o n) (hn : vs.length = n) : rd (w.setCells b o vs) b o n = some vs := by
  subst hn; exact rd_of rfl (World.rangeAt_setCells_same w b o vs ht)
theorem rd_setCells_apart {w : World} {b' o' n : Nat} {cs : List Value} (h : rd w b' o' n = some cs) (b o : Nat) (vs : List Value) (hap : b' ≠ b ∨ o' + n ≤ o ∨ o + vs.length ≤ o') : rd (w.setCells b o vs) b' o' n = some cs := by
  obtain ⟨hl, hr⟩ := rd_iff.1 h
  exact rd_of hl (World.rangeAt_setCells_apart hr b o vs (by rw [hl]; exact hap))
theorem bel_setCells {B b : Nat} {w0 : World} (hb : B ≤ b) : ∀ (vs : List Value) (o : Nat) (w : World), Below B w0 w → Below B w0 (w.setCells b o vs)
  | [], _, _, h => h
  | v :: vs, o, w, h => bel_setCells hb vs (o + 1) _ (h.setCell (p := ⟨b, o, none⟩) hb v)
theorem size_setCells (b : Nat) : ∀ (vs : List Value) (o : Nat) (w : World), (w.setCells b o vs).heap.size = w.heap.size
  | [], _, _ => rfl
  | v :: vs, o, w => by rw [World.setCells, size_setCells b vs (o + 1)]; simp [World.setCell]
theorem there_sub {w : World} {b o n : Nat} (h : w.there b o n) (o' n' : Nat) (h1 : o ≤ o') (h2 : o' + n' ≤ o + n) : w.there b o' n' := fun j hj => by
  have := h (o' - o + j) (by omega)
  rw [show o + (o' - o + j) = o' + j from by omega] at this
  exact this
theorem there_new (w : World) (C : Array Value) (t n : Nat) (hn : n ≤ C.size) : (w.alloc (.cells C t)).there w.heap.size 0 n := fun j hj => by
  rw [Nat.zero_add, World.cell?_alloc_at C t _ _ rfl, World.frozen?_alloc_at C t _ _ rfl]
  exact ⟨by rw [Array.getElem?_eq_getElem (by omega)]; rfl, rfl⟩
theorem there_below {B : Nat} {w w' : World} (h : Below B w w') {b : Nat} (hb : b < B) {o n : Nat} (ht : w.there b o n) : w'.there b o n := fun j hj => by
  rw [h.cell hb, h.frozen hb]; exact ht j hj
theorem there_lt {w : World} {b o n : Nat} (h : w.there b o n) (hn : 0 < n) : b < w.heap.size := by
  obtain ⟨u, hu⟩ := Option.isSome_iff_exists.1 (h 0 hn).1
  exact World.block_lt_of_cell? w _ hu

/-- rows laid end to end -/
def flat (E : Nat → List Value) (len : Nat) : List Value := (List.range len).flatMap E
theorem flat_succ (E : Nat → List Value) (len : Nat) : flat E (len + 1) = flat E len ++ E len := by simp [flat, List.range_succ]
theorem flat_length (E : Nat → List Value) (n : Nat) : ∀ len, (∀ i, i < len → (E i).length = n) → (flat E len).length = len * n
  | 0, _ => by simp [flat]
  | len + 1, h => by
    rw [flat_succ, List.length_append, flat_length E n len (fun i hi => h i (by omega)), h len (by omega), Nat.succ_mul]
theorem flat_mem {E : Nat → List Value} {p : Value → Prop} : ∀ {len : Nat}, (∀ i, i < len → ∀ v ∈ E i, p v) → ∀ v ∈ flat E len, p v := by
  intro len h v hv
  obtain ⟨i, hi, hv⟩ := List.mem_flatMap.1 hv
  exact h i (List.mem_range.1 hi) v hv
theorem rd_append {w : World} {b o n m : Nat} {xs ys : List Value} (h1 : rd w b o n = some xs) (h2 : rd w b (o + n) m = some ys) : rd w b o (n + m) = some (xs ++ ys) := by
  obtain ⟨l1, r1⟩ := rd_iff.1 h1
  obtain ⟨l2, r2⟩ := rd_iff.1 h2
  refine rd_of (by simp [l1, l2]) fun j v hv => ?_
  by_cases hj : j < n
  · rw [List.getElem?_append_left (by omega)] at hv
    exact r1 j v hv
  · rw [List.getElem?_append_right (by omega), l1] at hv
    have := r2 (j - n) v hv
    rwa [show o + n + (j - n) = o + j from by omega] at this
theorem rd_flat {w : World} {b off n : Nat} {E : Nat → List Value} : ∀ {len : Nat}, (∀ i, i < len → rd w b (off + i * n) n = some (E i)) → rd w b off (len * n) = some (flat E len)
  | 0, _ => by simp [rd, flat]
  | len + 1, h => by
    rw [flat_succ, Nat.succ_mul]
    exact rd_append (rd_flat fun i hi => h i (by omega)) (h len (by omega))
theorem rd_of_flat {w : World} {b off n : Nat} {E : Nat → List Value} : ∀ {len : Nat}, (∀ i, i < len → (E i).length = n) → rd w b off (len * n) = some (flat E len) → ∀ i, i < len → rd w b (off + i * n) n = some (E i)
  | 0, _, _, i, hi => by omega
  | len + 1, hE, h, i, hi => by
    rw [flat_succ] at h
    have hfl := flat_length E n len (fun i hi => hE i (by omega))
    have hl := hE len (by omega)
    rw [Nat.succ_mul] at h
    have h' : rd w b off ((flat E len).length + (E len).length) = some (flat E len ++ E len) := by rw [hfl, hl]; exact h
    obtain ⟨h1, h2⟩ := rd_split h'
    rw [hfl] at h1 h2
    rw [hl] at h2
    by_cases e : i = len
    · subst e; exact h2
    · exact rd_of_flat (fun i hi => hE i (by omega)) h1 i (by omega)

/-- copy of whole elements into fresh memory -/
theorem run_copy_rows {P : Program} (w : World) (dT sT ty elem : TypeId) (b o dCap : Nat) (b' o' len sCap n : Nat) (cs : List Value)
    (hu : P.underlying dT = some (.slice elem)) (hs : (P.info? elem).map (·.size) = some n) (hsrc : rd w b' o' (len * n) = some cs) (ht : w.there b o (len * n)) (h1 : ∀ v ∈ cs, v.oneCell' = true) :
    (Builtin.copy_ #[dT, sT] ty #[.slice (some ⟨b, o, none⟩) len dCap, .slice (some ⟨b', o', none⟩) len sCap]).run P w = .ok (goInt len) (w.setCells b o cs) := by
  obtain ⟨hl, hr⟩ := rd_iff.1 hsrc
  have hld := run_loadCells_list (P := P) w ⟨b', o', none⟩ cs (fun j v hv => by rw [Addr.add_mid]; exact hr j v hv)
  rw [hl] at hld
  have hst := run_storeCells_cells (P := P) b o cs 0 w (fun j hj => by simpa using (ht j (by omega)).1) (fun j hj => by simpa using (ht j (by omega)).2) h1
  rw [Nat.add_zero] at hst
  have hmin : Nat.min len len = len := Nat.min_self len
  cases hq : P.info? elem with
  | none => simp [hq] at hs
  | some i =>
    have hi : i.size = n := by simpa [hq] using hs
    simp [Builtin.copy_, run_underlying hu, Builtin.lenOf, Builtin.firstCells, sizeOf, typeInfo, hq, hi, hld, hst]

theorem run_copy_zero {P : Program} (w : World) (dT sT ty elem : TypeId) (d a : Option Addr) (dCap sCap n : Nat) (hu : P.underlying dT = some (.slice elem)) (hs : (P.info? elem).map (·.size) = some n) :
    (Builtin.copy_ #[dT, sT] ty #[.slice d 0 dCap, .slice a 0 sCap]).run P w = .ok (goInt 0) w := by
  cases hq : P.info? elem with
  | none => simp [hq] at hs
  | some i =>
    have hl : ∀ (x : Addr), (loadCells x 0).run P w = .ok #[] w := fun x => by simpa using run_loadCells_list (P := P) w x [] (by simp)
    cases d <;> cases a <;> simp [Builtin.copy_, run_underlying hu, Builtin.lenOf, Builtin.firstCells, sizeOf, typeInfo, hq, storeCells, hl]
end Go.Proofs.Qxb6612300a
