/- Leaving (type 62): its cells; Split (34) at a Leaving; ZZsplitLeaving (29). -/
import Derived.Test.Qxb6612300aZZR
namespace Go.Proofs.Qxb6612300a
open Go.RowKit
set_option linter.unusedVariables false

/-- the cells of a Leaving -/
def leavC (xs : List Int) (s : ByteArray) (S : Value) (ys : List Int) (t : ByteArray) (T : Value) : List Value := peerC xs s ++ (S :: (peerC ys t ++ [T]))
theorem leavC_length (xs : List Int) (s : ByteArray) (S : Value) (ys : List Int) (t : ByteArray) (T : Value) (hx : xs.length = 20) (hy : ys.length = 20) : (leavC xs s S ys t T).length = 44 := by
  simp [leavC, peerC_length _ _ hx, peerC_length _ _ hy]
theorem one_leavC (xs : List Int) (s : ByteArray) (S : Value) (ys : List Int) (t : ByteArray) (T : Value) (hS : S.oneCell' = true) (hT : T.oneCell' = true) : ∀ v ∈ leavC xs s S ys t T, v.oneCell' = true := by
  intro v hv
  simp only [leavC, List.mem_append, List.mem_cons, List.not_mem_nil, or_false] at hv
  rcases hv with hv | rfl | hv | rfl
  · exact one_peerC xs s v hv
  · exact hS
  · exact one_peerC ys t v hv
  · exact hT
theorem size62 : (Try.prog.info? 62).map (·.size) = some 44 := by kernel_rfl
theorem size42 : (Try.prog.info? 42).map (·.size) = some 1 := by kernel_rfl
theorem zero62 : (Try.prog.info? 62).map (·.zero) = some (some (.agg (leavC z20 .empty (.slice none 0 0) z20 .empty (.slice none 0 0)).toArray)) := by kernel_rfl
theorem built62 (parts : List (Nat × Value)) : Try.prog.built 62 parts = Instr.fill (fun i => (#[(0, 21), (21, 1), (22, 21), (43, 1)] : Array (Nat × Nat))[i]?) (leavC z20 .empty (.slice none 0 0) z20 .empty (.slice none 0 0)).toArray parts := by kernel_rfl

theorem run_bld62 (w : World) (xs : List Int) (s : ByteArray) (a : Option Addr) (n c : Nat) (ys : List Int) (t : ByteArray) (a' : Option Addr) (n' c' : Nat) (hx : xs.length = 20) (hy : ys.length = 20) :
    (bldA 62 #[(0, .agg (peerC xs s).toArray), (1, .slice a n c), (2, .agg (peerC ys t).toArray), (3, .slice a' n' c')]).run Try.prog w = .ok (.value (.agg (leavC xs s (.slice a n c) ys t (.slice a' n' c')).toArray)) w := by
  have h : Try.prog.built 62 [(0, .agg (peerC xs s).toArray), (1, .slice a n c), (2, .agg (peerC ys t).toArray), (3, .slice a' n' c')] = some (leavC xs s (.slice a n c) ys t (.slice a' n' c')).toArray := by
    rw [built62]
    have lz := peerC_length z20 .empty z20_length
    have e1 := fill_part (place := fun i => (#[(0, 21), (21, 1), (22, 21), (43, 1)] : Array (Nat × Nat))[i]?) (pre := []) (old := peerC z20 .empty) (post := .slice none 0 0 :: (peerC z20 .empty ++ [.slice none 0 0])) (vs := peerC xs s) (V := .agg (peerC xs s).toArray) (i := 0) (rest := [(1, .slice a n c), (2, .agg (peerC ys t).toArray), (3, .slice a' n' c')])
      rfl rfl rfl lz (peerC_length _ _ hx)
    have e2 := fill_part (place := fun i => (#[(0, 21), (21, 1), (22, 21), (43, 1)] : Array (Nat × Nat))[i]?) (pre := peerC xs s) (old := [.slice none 0 0]) (post := peerC z20 .empty ++ [.slice none 0 0]) (vs := [.slice a n c]) (V := .slice a n c) (i := 1) (rest := [(2, .agg (peerC ys t).toArray), (3, .slice a' n' c')])
      rfl rfl (peerC_length _ _ hx) rfl rfl
    have e3 := fill_part (place := fun i => (#[(0, 21), (21, 1), (22, 21), (43, 1)] : Array (Nat × Nat))[i]?) (pre := peerC xs s ++ [.slice a n c]) (old := peerC z20 .empty) (post := [.slice none 0 0]) (vs := peerC ys t) (V := .agg (peerC ys t).toArray) (i := 2) (rest := [(3, .slice a' n' c')])
      rfl rfl (by simp [peerC_length _ _ hx]) lz (peerC_length _ _ hy)
    have e4 := fill_part (place := fun i => (#[(0, 21), (21, 1), (22, 21), (43, 1)] : Array (Nat × Nat))[i]?) (pre := peerC xs s ++ (.slice a n c :: peerC ys t)) (old := [.slice none 0 0]) (post := []) (vs := [.slice a' n' c']) (V := .slice a' n' c') (i := 3) (rest := [])
      rfl rfl (by simp [peerC_length _ _ hx, peerC_length _ _ hy]) rfl rfl
    simp only [List.nil_append, List.append_nil, List.append_assoc, List.cons_append] at e1 e2 e3 e4
    exact e1.trans (e2.trans (e3.trans e4))
  simp only [bldA, Sem.run_bind, run_build w 62 _ _ h, Result.andThen_ok, Sem.run_pure]

theorem ex_build62 (ρ : Operand → Value) (dst : Option Tmp) (ps : Array (Nat × Operand)) (ty : TypeId) (pos : String) (after : Array Edge) (guard : Option (Nat × Bool)) : execOp ρ { dst, op := .build 62 ps, type := ty, pos, after, guard } = bldA 62 (ps.map fun (i, x) => (i, ρ x)) := rfl
theorem ex_alloc62 (ρ : Operand → Value) (dst : Option Tmp) (ty : TypeId) (pos : String) (after : Array Edge) (guard : Option (Nat × Bool)) : execOp ρ { dst, op := .alloc 62, type := ty, pos, after, guard } = alA 62 := rfl
theorem ex_store62 (ρ : Operand → Value) (dst : Option Tmp) (x y : Operand) (ty : TypeId) (pos : String) (after : Array Edge) (guard : Option (Nat × Bool)) : execOp ρ { dst, op := .store 62 x y, type := ty, pos, after, guard } = stA 62 (ρ x) (ρ y) := rfl
theorem ex_load62 (ρ : Operand → Value) (dst : Option Tmp) (x : Operand) (ty : TypeId) (pos : String) (after : Array Edge) (guard : Option (Nat × Bool)) : execOp ρ { dst, op := .load 62 x, type := ty, pos, after, guard } = ldA 62 (ρ x) := rfl
theorem run_ld62 (w : World) (b o : Nat) : (ldA 62 (.pointer (some ⟨b, o, none⟩))).run Try.prog w = match rd w b o 44 with | some cs => .ok (.value (.agg cs.toArray)) w | none => (ldB 62 (.pointer (some ⟨b, o, none⟩))).run Try.prog w := run_ldA Try.underlying62 rfl size62
theorem run_al62 (w : World) : (alA 62).run Try.prog w = .ok (.value (.pointer (some ⟨w.heap.size, 0, none⟩))) (w.alloc (.cells (leavC z20 .empty (.slice none 0 0) z20 .empty (.slice none 0 0)).toArray 62)) := by
  have hz : ∃ i, Try.prog.info? 62 = some i ∧ i.zero = some (.agg (leavC z20 .empty (.slice none 0 0) z20 .empty (.slice none 0 0)).toArray) := by
    have h := zero62
    cases hi : Try.prog.info? 62 with
    | none => simp [hi] at h
    | some i => exact ⟨i, rfl, by simpa [hi] using h⟩
  obtain ⟨i, hi, hz⟩ := hz
  simp [alA, Instr.alloc, zeroValue, typeInfo, hi, hz, newVar, newRow, Value.cells]
theorem run_st62 (w : World) (S T : Value) (xs ys : List Int) (s t : ByteArray) (us : List Int) (s' : ByteArray) (a : Option Addr) (n c : Nat) (vs : List Int) (t' : ByteArray) (a' : Option Addr) (n' c' : Nat) (b : Nat) (hb : b = w.heap.size) (hx : xs.length = 20) (hy : ys.length = 20) (hu : us.length = 20) (hv : vs.length = 20) :
    (stA 62 (.pointer (some ⟨b, 0, none⟩)) (.agg (leavC us s' (.slice a n c) vs t' (.slice a' n' c')).toArray)).run Try.prog (w.alloc (.cells (leavC xs s S ys t T).toArray 62)) = .ok .skip (w.alloc (.cells (leavC us s' (.slice a n c) vs t' (.slice a' n' c')).toArray 62)) :=
  run_stA_new (n := 44) hb (by simp [leavC_length _ _ _ _ _ _ hx hy]) (leavC_length _ _ _ _ _ _ hu hv) (one_leavC _ _ _ _ _ _ rfl rfl) size62

/-- a Leaving that lies in memory: its fields -/
structure LeavAt (w : World) (p : Nat) (xs : List Int) (s : ByteArray) (S : Value) (ys : List Int) (t : ByteArray) (T : Value) : Prop where
  head : rd w p 0 21 = some (peerC xs s)
  succs : w.cell? ⟨p, 21, none⟩ = some S
  pred : rd w p 22 21 = some (peerC ys t)
  items : w.cell? ⟨p, 43, none⟩ = some T
theorem leavAt_of {w : World} {p : Nat} {xs : List Int} {s : ByteArray} {S : Value} {ys : List Int} {t : ByteArray} {T : Value} (hx : xs.length = 20) (hy : ys.length = 20) (h : rd w p 0 44 = some (leavC xs s S ys t T)) : LeavAt w p xs s S ys t T := by
  have lx := peerC_length xs s hx
  have ly := peerC_length ys t hy
  refine ⟨?_, ?_, ?_, ?_⟩
  · have := rd_sub h 0 21 (by omega)
    rwa [Nat.add_zero, List.drop_zero, leavC, List.take_left' lx] at this
  · rw [rd_cell0 h 21 (by omega), leavC, List.getElem?_append_right (by omega), lx]; rfl
  · have := rd_sub h 22 21 (by omega)
    rw [Nat.zero_add, leavC, List.drop_append, List.drop_eq_nil_of_le (by omega), lx] at this
    rw [this, List.nil_append]
    show some ((peerC ys t ++ [T]).take 21) = _
    rw [List.take_left' ly]
  · rw [rd_cell0 h 43 (by omega), leavC, List.getElem?_append_right (by omega), lx]
    show (peerC ys t ++ [T])[21]? = _
    rw [List.getElem?_append_right (by omega), ly]; rfl
theorem leavAt_new (w : World) (xs : List Int) (s : ByteArray) (S : Value) (ys : List Int) (t : ByteArray) (T : Value) (hx : xs.length = 20) (hy : ys.length = 20) : LeavAt (w.alloc (.cells (leavC xs s S ys t T).toArray 62)) w.heap.size xs s S ys t T :=
  leavAt_of hx hy (rd_alloc_row _ _ _ _ _ rfl (leavC_length _ _ _ _ _ _ hx hy))
theorem LeavAt.below {w w' : World} {p : Nat} {xs : List Int} {s : ByteArray} {S : Value} {ys : List Int} {t : ByteArray} {T : Value} (h : LeavAt w p xs s S ys t T) {B : Nat} (hb : Below B w w') (hp : p < B) : LeavAt w' p xs s S ys t T :=
  ⟨(rd_below hb hp _ _).trans h.head, (hb.cell (p := ⟨p, 21, none⟩) hp).trans h.succs, (rd_below hb hp _ _).trans h.pred, (hb.cell (p := ⟨p, 43, none⟩) hp).trans h.items⟩

theorem ta62_42 (v : Value) (w : World) : (Instr.typeAssert (.iface 62 v) 110 42 true).run Try.prog w = .ok (.tuple #[.agg #[.slice none 0 0], .bool false]) w := by kernel_rfl
theorem ta62_46 (v : Value) (w : World) : (Instr.typeAssert (.iface 62 v) 110 46 true).run Try.prog w = .ok (.tuple #[.agg #[.slice none 0 0], .bool false]) w := by kernel_rfl
theorem ta62_53 (v : Value) (w : World) : (Instr.typeAssert (.iface 62 v) 110 53 true).run Try.prog w = .ok (.tuple #[.agg (renewC (.slice none 0 0) z20).toArray, .bool false]) w := by kernel_rfl
theorem ta62_49 (v : Value) (w : World) : (Instr.typeAssert (.iface 62 v) 110 49 true).run Try.prog w = .ok (.tuple #[.agg #[.slice none 0 0], .bool false]) w := by kernel_rfl
theorem ta62_62 (v : Value) (w : World) : (Instr.typeAssert (.iface 62 v) 110 62 true).run Try.prog w = .ok (.tuple #[v, .bool true]) w := by kernel_rfl
end Go.Proofs.Qxb6612300a
