/- Items: the cells of one, equality, itemBytes (19), zzBytes (18), toItems (20), itemsAt (31). -/
import Derived.Test.Qxb6612300aNode
import Derived.Test.Qxb6612300aLaws2
import Derived.Test.Qxb6612300aThen
namespace Go.Proofs.Qxb6612300a
open Go.RowKit
set_option linter.unusedVariables false

/-- it answered with a bool -/
def IsBool (e : Ending) : Prop := ∃ b, e = .returned (.bool b)
theorem isBool (b : Bool) : IsBool (.returned (.bool b)) := ⟨b, rfl⟩
/-- it answered with an int -/
def IsInt (e : Ending) : Prop := ∃ n, e = .returned (.int .i64 n)
theorem isInt (n : Int) : IsInt (.returned (.int .i64 n)) := ⟨n, rfl⟩

/-- the cells of an Item (and of a SplitItem) -/
def itemC (k : List Int) (v : ByteArray) (n : Int) : List Value := cs8 k ++ [.string v, .int .u64 n]
theorem itemC_length (k : List Int) (v : ByteArray) (n : Int) (hk : k.length = 20) : (itemC k v n).length = 22 := by simp [itemC, cs8, hk]
theorem one_itemC (k : List Int) (v : ByteArray) (n : Int) : ∀ u ∈ itemC k v n, u.oneCell' = true := by
  intro u hu
  simp only [itemC, List.mem_append, List.mem_cons, List.not_mem_nil, or_false] at hu
  rcases hu with hu | rfl | rfl
  · exact one_cs8 k u hu
  · rfl
  · rfl
theorem size103 : (Try.prog.info? 103).map (·.size) = some 22 := by kernel_rfl
theorem size105 : (Try.prog.info? 105).map (·.size) = some 22 := by kernel_rfl

theorem item_key {w : World} {b o : Nat} {k : List Int} {v : ByteArray} {n : Int} (hk : k.length = 20) (h : rd w b o 22 = some (itemC k v n)) : rd w b o 20 = some (cs8 k) := by
  have := rd_sub h 0 20 (by omega)
  rwa [Nat.add_zero, List.drop_zero, itemC, List.take_left' (by simp [cs8, hk])] at this
theorem item_val {w : World} {b o : Nat} {k : List Int} {v : ByteArray} {n : Int} (hk : k.length = 20) (h : rd w b o 22 = some (itemC k v n)) : w.cell? ⟨b, o + 20, none⟩ = some (.string v) := by
  rw [rd_cell h 20 (by omega)]; simp [itemC, cs8, hk]
theorem item_ver {w : World} {b o : Nat} {k : List Int} {v : ByteArray} {n : Int} (hk : k.length = 20) (h : rd w b o 22 = some (itemC k v n)) : w.cell? ⟨b, o + 21, none⟩ = some (.int .u64 n) := by
  rw [rd_cell h 21 (by omega)]; simp [itemC, cs8, hk]

/-! ### building and comparing -/
theorem built105 (parts : List (Nat × Value)) : Try.prog.built 105 parts = Instr.fill (fun i => (#[(0, 20), (20, 1), (21, 1)] : Array (Nat × Nat))[i]?) (itemC z20 .empty 0).toArray parts := by kernel_rfl
theorem run_bld105 (w : World) (k : List Int) (v : ByteArray) (n : Int) (hk : k.length = 20) :
    (bldA 105 #[(0, .agg (cs8 k).toArray), (1, .string v), (2, .int .u64 n)]).run Try.prog w = .ok (.value (.agg (itemC k v n).toArray)) w := by
  have h : Try.prog.built 105 [(0, .agg (cs8 k).toArray), (1, .string v), (2, .int .u64 n)] = some (itemC k v n).toArray := by
    rw [built105]
    have e1 := fill_part (place := fun i => (#[(0, 20), (20, 1), (21, 1)] : Array (Nat × Nat))[i]?) (pre := []) (old := cs8 z20) (post := [.string .empty, .int .u64 0]) (vs := cs8 k) (V := .agg (cs8 k).toArray) (i := 0) (rest := [(1, .string v), (2, .int .u64 n)])
      rfl rfl rfl (by simp [cs8, z20]) (by simp [cs8, hk])
    have e2 := fill_part (place := fun i => (#[(0, 20), (20, 1), (21, 1)] : Array (Nat × Nat))[i]?) (pre := cs8 k) (old := [.string .empty]) (post := [.int .u64 0]) (vs := [.string v]) (V := .string v) (i := 1) (rest := [(2, .int .u64 n)])
      rfl rfl (by simp [cs8, hk]) rfl rfl
    have e3 := fill_part (place := fun i => (#[(0, 20), (20, 1), (21, 1)] : Array (Nat × Nat))[i]?) (pre := cs8 k ++ [.string v]) (old := [.int .u64 0]) (post := []) (vs := [.int .u64 n]) (V := .int .u64 n) (i := 2) (rest := [])
      rfl rfl (by simp [cs8, hk]) rfl rfl
    simp only [List.nil_append, List.append_nil, List.append_assoc, List.cons_append] at e1 e2 e3
    exact e1.trans (e2.trans e3)
  simp only [bldA, Sem.run_bind, run_build w 105 _ _ h, Result.andThen_ok, Sem.run_pure]

theorem guard105 : Try.prog.eqGuardType Try.prog.depth 105 = false := by kernel_rfl
theorem held105 : Try.prog.stoodInHeld 105 = false := by kernel_rfl
theorem under105 : Try.prog.underlying 105 = some (.struct (Try.prog.fieldsOf 105)) := by kernel_rfl
theorem fields105 : (Try.prog.fieldsOf 105).toList = [{ name := "Key", type := 29, offset := 0, embedded := false, tag := "", pkgPath := "", byteOffset := 0 }, { name := "Value", type := 9, offset := 20, embedded := false, tag := "", pkgPath := "", byteOffset := 24 }, { name := "Version", type := 81, offset := 21, embedded := false, tag := "", pkgPath := "", byteOffset := 40 }] := by kernel_rfl

theorem part105_key (w : World) (k : List Int) (v : ByteArray) (n : Int) (hk : k.length = 20) : (part 29 (itemC k v n).toArray 0).run Try.prog w = .ok (.agg (cs8 k).toArray) w := by
  obtain ⟨i, hi, hi1⟩ : ∃ i, Try.prog.info? 29 = some i ∧ i.size = 20 := by
    have h := size29
    cases hi : Try.prog.info? 29 with
    | none => simp [hi] at h
    | some i => exact ⟨i, rfl, by simpa [hi] using h⟩
  have e : (itemC k v n).take 20 = cs8 k := List.take_left' (by simp [cs8, hk])
  simp [part, isAgg, Sem.run_bind, run_underlying Try.underlying29, sizeOf, typeInfo, hi, hi1, e]
theorem part105_val (w : World) (k : List Int) (v : ByteArray) (n : Int) (hk : k.length = 20) : (part 9 (itemC k v n).toArray 20).run Try.prog w = .ok (.string v) w := by
  have e : (itemC k v n).toArray[20]? = some (.string v) := by simp [itemC, cs8, hk]
  simp [part, isAgg, Sem.run_bind, run_underlying Try.underlying9, e]
theorem part105_ver (w : World) (k : List Int) (v : ByteArray) (n : Int) (hk : k.length = 20) : (part 81 (itemC k v n).toArray 21).run Try.prog w = .ok (.int .u64 n) w := by
  have e : (itemC k v n).toArray[21]? = some (.int .u64 n) := by simp [itemC, cs8, hk]
  simp [part, isAgg, Sem.run_bind, run_underlying Try.underlying81, e]
theorem eq105_a (w : World) (d : Nat) (xs ys : Array Value) :
    (Op.equalIn (d + 3) 105 (.agg xs) (.agg ys)).run Try.prog w = (Op.eqFields (d + 2) xs ys (Try.prog.fieldsOf 105).toList).run Try.prog w :=
  run_equalIn_struct w (d + 2) 105 _ _ under105 held105
/-- an item is equal to itself -/
theorem eq105_b (w : World) (d : Nat) (k : List Int) (v : ByteArray) (n : Int) (hk : k.length = 20) :
    (Op.eqFields (d + 2) (itemC k v n).toArray (itemC k v n).toArray [{ name := "Key", type := 29, offset := 0, embedded := false, tag := "", pkgPath := "", byteOffset := 0 }, { name := "Value", type := 9, offset := 20, embedded := false, tag := "", pkgPath := "", byteOffset := 24 }, { name := "Version", type := 81, offset := 21, embedded := false, tag := "", pkgPath := "", byteOffset := 40 }]).run Try.prog w = .ok true w := by
  rw [Op.eqFields, if_pos (by simp)]
  dsimp only
  rw [Sem.run_bind, part105_key w k v n hk, Result.andThen_ok, Sem.run_bind, part105_key w k v n hk, Result.andThen_ok, Sem.run_bind, run_equalIn_bytes w d 29 5 20 k k Try.underlying29 Try.underlying5 size5 hk hk, Result.andThen_ok, beq_self_eq_true,
    if_neg (by simp), Op.eqFields, if_pos (by simp)]
  dsimp only
  rw [Sem.run_bind, part105_val w k v n hk, Result.andThen_ok, Sem.run_bind, part105_val w k v n hk, Result.andThen_ok, Sem.run_bind, run_equalIn_string w (d + 1) 9 v v Try.underlying9, Result.andThen_ok, beq_self_eq_true,
    if_neg (by simp), Op.eqFields, if_pos (by simp)]
  dsimp only
  rw [Sem.run_bind, part105_ver w k v n hk, Result.andThen_ok, Sem.run_bind, part105_ver w k v n hk, Result.andThen_ok, Sem.run_bind, run_equalIn_int w (d + 1) 81 .u64 .u64 n n Try.underlying81, Result.andThen_ok, beq_self_eq_true,
    if_neg (by simp), Op.eqFields]
  rfl
theorem run_neq105 (w : World) (x y : Operand) (k : List Int) (v : ByteArray) (n : Int) (hk : k.length = 20) :
    (eqA .neq 105 x y (.agg (itemC k v n).toArray) (.agg (itemC k v n).toArray)).run Try.prog w = .ok (.value (.bool false)) w := by
  have h : (Op.equalIn 10000 105 (.agg (itemC k v n).toArray) (.agg (itemC k v n).toArray)).run Try.prog w = .ok true w := by
    have := eq105_a w 9997 (itemC k v n).toArray (itemC k v n).toArray
    rw [fields105, eq105_b w 9997 k v n hk] at this
    exact this
  simp only [eqA, Sem.run_bind, run_eqGuard_agg w .neq 105 x y _ _ guard105, Result.andThen_ok, run_neq_struct, h, Sem.run_pure, Bool.not_true]

theorem ex_build105 (ρ : Operand → Value) (dst : Option Tmp) (ps : Array (Nat × Operand)) (ty : TypeId) (pos : String) (after : Array Edge) (guard : Option (Nat × Bool)) : execOp ρ { dst, op := .build 105 ps, type := ty, pos, after, guard } = bldA 105 (ps.map fun (i, x) => (i, ρ x)) := rfl
theorem ex_store105 (ρ : Operand → Value) (dst : Option Tmp) (x y : Operand) (ty : TypeId) (pos : String) (after : Array Edge) (guard : Option (Nat × Bool)) : execOp ρ { dst, op := .store 105 x y, type := ty, pos, after, guard } = stA 105 (ρ x) (ρ y) := rfl
theorem ex_load105 (ρ : Operand → Value) (dst : Option Tmp) (x : Operand) (ty : TypeId) (pos : String) (after : Array Edge) (guard : Option (Nat × Bool)) : execOp ρ { dst, op := .load 105 x, type := ty, pos, after, guard } = ldA 105 (ρ x) := rfl
theorem ex_neq105 (ρ : Operand → Value) (dst : Option Tmp) (x y : Operand) (yt ty : TypeId) (pos : String) (after : Array Edge) (guard : Option (Nat × Bool)) : execOp ρ { dst, op := .binOp .neq 105 x y yt, type := ty, pos, after, guard } = eqA .neq 105 x y (ρ x) (ρ y) := rfl
theorem run_ld105 (w : World) (b o : Nat) : (ldA 105 (.pointer (some ⟨b, o, none⟩))).run Try.prog w = match rd w b o 22 with | some cs => .ok (.value (.agg cs.toArray)) w | none => (ldB 105 (.pointer (some ⟨b, o, none⟩))).run Try.prog w := run_ldA Try.underlying105 rfl size105
end Go.Proofs.Qxb6612300a
