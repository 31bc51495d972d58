/- The walks of bytes.Compare (35), Peer.IsZero (36), (*Node).first (33), ZZnodeFirst (15). -/
import Derived.Test.Qxb6612300aLaws
namespace Go.Proofs.Qxb6612300a
open Go.RowKit
set_option linter.unusedVariables false

/-- what bytes.Compare answers -/
def cmpv (xs ys : List Int) : Int := Lib.compareBytes (Lib.bytesOf xs) (Lib.bytesOf ys)

theorem cmpv_lt : ∀ (xs ys : List Int), Bytes xs → Bytes ys → (decide (cmpv xs ys < 0)) = lexLt xs ys
  | [], [], _, _ => rfl
  | [], _ :: _, _, _ => rfl
  | _ :: _, [], _, _ => rfl
  | x :: xs, y :: ys, bx, yb => by
    have ih := cmpv_lt xs ys (fun z hz => bx z (List.mem_cons_of_mem _ hz)) (fun z hz => yb z (List.mem_cons_of_mem _ hz))
    have hx := bx x (List.mem_cons_self ..)
    have hy := yb y (List.mem_cons_self ..)
    have e1 : (UInt8.ofNat x.toNat < UInt8.ofNat y.toNat) ↔ x < y := by
      rw [UInt8.lt_iff_toNat_lt]; simp only [UInt8.toNat_ofNat']; omega
    have e2 : (UInt8.ofNat y.toNat < UInt8.ofNat x.toNat) ↔ y < x := by
      rw [UInt8.lt_iff_toNat_lt]; simp only [UInt8.toNat_ofNat']; omega
    simp only [cmpv, Lib.bytesOf, List.map_cons, Lib.compareBytes, e1, e2, lexLt] at ih ⊢
    by_cases h1 : x < y
    · simp [h1]
    · by_cases h2 : y < x
      · have : ¬ x = y := by omega
        simp [h1, h2, this]
      · obtain rfl : x = y := by omega
        rw [Bool.eq_iff_iff, ← ih]
        simp only [Int.lt_irrefl, if_false, decide_false, decide_true, Bool.false_or, Bool.true_and, decide_eq_true_eq]
        exact decide_eq_true_iff.symm

theorem cmpv_ge (xs ys : List Int) (bx : Bytes xs) (yb : Bytes ys) : (decide (0 ≤ cmpv xs ys)) = !lexLt xs ys := by
  rw [← cmpv_lt xs ys bx yb]
  by_cases h : cmpv xs ys < 0
  · have : ¬ 0 ≤ cmpv xs ys := by omega
    simp [h, this]
  · have : 0 ≤ cmpv xs ys := by omega
    simp [h, this]

theorem run_bytesOf {P : Program} (w : World) (b o n c : Nat) (xs : List Int) (hx : xs.length = n) (h : rd w b o n = some (cs8 xs)) :
    (Extern.Bytes.bytesOf (.slice (some ⟨b, o, none⟩) n c)).run P w = .ok ⟨(Lib.bytesOf xs).toArray⟩ w := by
  have hl := Lib.run_loadBytesX (P := P) w xs ⟨b, o, none⟩ .empty (fun j x hj => by
    rw [Addr.add_mid, rd_cell h j (by have := (List.getElem?_eq_some_iff.1 hj).1; omega)]
    simp [cs8, hj])
  rw [hx] at hl
  have he : (⟨ByteArray.empty.data ++ (Lib.bytesOf xs).toArray⟩ : ByteArray) = ⟨(Lib.bytesOf xs).toArray⟩ := by
    apply ByteArray.ext
    show (#[] : Array UInt8) ++ (Lib.bytesOf xs).toArray = (Lib.bytesOf xs).toArray
    simp
  rw [he] at hl
  exact hl

theorem run_compare {P : Program} (w : World) (b o n c b' o' n' c' : Nat) (xs ys : List Int) (hx : xs.length = n) (hy : ys.length = n') (h : rd w b o n = some (cs8 xs)) (h' : rd w b' o' n' = some (cs8 ys)) :
    (Extern.BytealgCompare.compare #[.slice (some ⟨b, o, none⟩) n c, .slice (some ⟨b', o', none⟩) n' c']).run P w = .ok (.int .i64 (cmpv xs ys)) w := by
  change Sem.run P (do pure (goInt (Extern.BytealgCompare.cmp (← Extern.Bytes.bytesOf (.slice (some ⟨b, o, none⟩) n c)) (← Extern.Bytes.bytesOf (.slice (some ⟨b', o', none⟩) n' c'))))) w = _
  simp only [Sem.run_bind, Sem.run_pure, run_bytesOf (P := P) w b o n c xs hx h, run_bytesOf (P := P) w b' o' n' c' ys hy h', Result.andThen_ok]
  rw [Lib.cmp_eq]
  rfl

set_option maxHeartbeats 400000 in
set_option maxRecDepth 100000 in
theorem compare_any (b o c b' o' c' : Nat) (xs ys : List Int) (hx : xs.length = 20) (hy : ys.length = 20) (w : World) (h : rd w b o 20 = some (cs8 xs)) (h' : rd w b' o' 20 = some (cs8 ys)) :
    Calls Try.prog 35 #[.slice (some ⟨b, o, none⟩) 20 c, .slice (some ⟨b', o', none⟩) 20 c'] w fun e w' => e = .returned (.int .i64 (cmpv xs ys)) ∧ w' = w := by
  go_enter Try.func35, Try.ntmps35
  go_wp2
  rw [run_callFunc_extern Try.func38 (by kernel_rfl) (by kernel_rfl) (by kernel_rfl) (e := Extern.BytealgCompare.compare) (by kernel_rfl), run_compare w b o 20 c b' o' 20 c' xs ys hx hy h h']
  simp only [Result.andThen]
  rw [Oper.upon_value]
  go_wp2
  go_ret
  exact ⟨rfl, rfl⟩

/-- the cells of a Peer -/
def peerC (xs : List Int) (s : ByteArray) : List Value := cs8 xs ++ [.string s]
theorem peerC_length (xs : List Int) (s : ByteArray) (hx : xs.length = 20) : (peerC xs s).length = 21 := by simp [peerC, cs8, hx]
theorem one_peerC (xs : List Int) (s : ByteArray) : ∀ v ∈ peerC xs s, v.oneCell' = true := by
  intro v hv
  simp only [peerC, List.mem_append, List.mem_singleton] at hv
  rcases hv with hv | rfl
  · exact one_cs8 xs v hv
  · rfl
def z20 : List Int := List.replicate 20 0
theorem z20_length : z20.length = 20 := by simp [z20]
theorem zero31 : (Try.prog.info? 31).map (·.zero) = some (some (.agg (peerC z20 .empty).toArray)) := by kernel_rfl
theorem size31 : (Try.prog.info? 31).map (·.size) = some 21 := by kernel_rfl
theorem size25 : (Try.prog.info? 25).map (·.size) = some 20 := by kernel_rfl
theorem size29 : (Try.prog.info? 29).map (·.size) = some 20 := by kernel_rfl
theorem size5 : (Try.prog.info? 5).map (·.size) = some 1 := by kernel_rfl
theorem size100 : (Try.prog.info? 100).map (·.size) = some 267 := by kernel_rfl

theorem built31 (parts : List (Nat × Value)) : Try.prog.built 31 parts = Instr.fill (fun i => (#[(0, 20), (20, 1)] : Array (Nat × Nat))[i]?) (peerC z20 .empty).toArray parts := by kernel_rfl

theorem built100 (parts : List (Nat × Value)) : Try.prog.built 100 parts = Instr.fill (fun i => (((Try.prog.fieldsOf 100).toList.mapM (fun f => (Try.prog.info? f.type).map fun i => (f.offset, i.size))).getD []).toArray[i]?) (((Try.prog.info? 100).bind (·.zero)).getD undef).cells.toList.toArray parts := by kernel_rfl
theorem z100_parts : ∃ pre mid post : List Value, pre.length = 16 ∧ mid.length = 4 ∧ post.length = 205 ∧ (((Try.prog.info? 100).bind (·.zero)).getD undef).cells.toList = pre ++ (peerC z20 .empty ++ (mid ++ (peerC z20 .empty ++ post))) :=
  ⟨(((Try.prog.info? 100).bind (·.zero)).getD undef).cells.toList.take 16, ((((Try.prog.info? 100).bind (·.zero)).getD undef).cells.toList.drop 37).take 4, (((Try.prog.info? 100).bind (·.zero)).getD undef).cells.toList.drop 62, by kernel_rfl, by kernel_rfl, by kernel_rfl, by kernel_rfl⟩
theorem place100_1 : (((Try.prog.fieldsOf 100).toList.mapM (fun f => (Try.prog.info? f.type).map fun i => (f.offset, i.size))).getD []).toArray[1]? = some (16, 21) := by kernel_rfl
theorem place100_6 : (((Try.prog.fieldsOf 100).toList.mapM (fun f => (Try.prog.info? f.type).map fun i => (f.offset, i.size))).getD []).toArray[6]? = some (41, 21) := by kernel_rfl

theorem run_bld31 (w : World) (xs : List Int) (s : ByteArray) (hx : xs.length = 20) :
    (bldA 31 #[(0, .agg (cs8 xs).toArray), (1, .string s)]).run Try.prog w = .ok (.value (.agg (peerC xs s).toArray)) w := by
  have h : Try.prog.built 31 [(0, .agg (cs8 xs).toArray), (1, .string s)] = some (peerC xs s).toArray := by
    rw [built31]
    have e1 := fill_part (place := fun i => (#[(0, 20), (20, 1)] : Array (Nat × Nat))[i]?) (pre := []) (old := cs8 z20) (post := [.string .empty]) (vs := cs8 xs) (V := .agg (cs8 xs).toArray) (i := 0) (rest := [(1, .string s)])
      rfl rfl rfl (by simp [cs8, z20]) (by simp [cs8, hx])
    have e2 := fill_part (place := fun i => (#[(0, 20), (20, 1)] : Array (Nat × Nat))[i]?) (pre := cs8 xs) (old := [.string .empty]) (post := []) (vs := [.string s]) (V := .string s) (i := 1) (rest := [])
      rfl rfl (by simp [cs8, hx]) rfl rfl
    simp only [List.nil_append, List.append_nil] at e1 e2
    exact e1.trans e2
  simp only [bldA, Sem.run_bind, run_build w 31 _ _ h, Result.andThen_ok, Sem.run_pure]

theorem run_bld31' (w : World) (xs : List Int) (hx : xs.length = 20) :
    (bldA 31 #[(0, .agg (cs8 xs).toArray)]).run Try.prog w = .ok (.value (.agg (peerC xs .empty).toArray)) w := by
  have h : Try.prog.built 31 [(0, .agg (cs8 xs).toArray)] = some (peerC xs .empty).toArray := by
    rw [built31]
    have e1 := fill_part (place := fun i => (#[(0, 20), (20, 1)] : Array (Nat × Nat))[i]?) (pre := []) (old := cs8 z20) (post := [.string .empty]) (vs := cs8 xs) (V := .agg (cs8 xs).toArray) (i := 0) (rest := [])
      rfl rfl rfl (by simp [cs8, z20]) (by simp [cs8, hx])
    simp only [List.nil_append] at e1
    exact e1
  simp only [bldA, Sem.run_bind, run_build w 31 _ _ h, Result.andThen_ok, Sem.run_pure]

theorem run_bld31_0 (w : World) : (bldA 31 #[]).run Try.prog w = .ok (.value (.agg (peerC z20 .empty).toArray)) w := by
  have h : Try.prog.built 31 [] = some (peerC z20 .empty).toArray := by rw [built31]; rfl
  simp only [bldA, Sem.run_bind, run_build w 31 _ _ h, Result.andThen_ok, Sem.run_pure]

theorem run_bld100 (xs : List Int) (s : ByteArray) (ys : List Int) (t : ByteArray) (hx : xs.length = 20) (hy : ys.length = 20) :
    ∃ C : List Value, C.length = 267 ∧ (C.drop 16).take 21 = peerC xs s ∧ (C.drop 41).take 21 = peerC ys t ∧
      ∀ w, (bldA 100 #[(1, .agg (peerC xs s).toArray), (6, .agg (peerC ys t).toArray)]).run Try.prog w = .ok (.value (.agg C.toArray)) w := by
  obtain ⟨pre, mid, post, h1, h2, h3, hz⟩ := z100_parts
  have hpx := peerC_length xs s hx
  have hpy := peerC_length ys t hy
  refine ⟨pre ++ (peerC xs s ++ (mid ++ (peerC ys t ++ post))), by simp [h1, h2, h3, hpx, hpy], ?_, ?_, fun w => ?_⟩
  · rw [List.drop_left' h1, List.take_left' hpx]
  · have e : pre ++ (peerC xs s ++ (mid ++ (peerC ys t ++ post))) = (pre ++ (peerC xs s ++ mid)) ++ (peerC ys t ++ post) := by simp
    rw [e, List.drop_left' (by simp [h1, h2, hpx]), List.take_left' hpy]
  · have h : Try.prog.built 100 [(1, .agg (peerC xs s).toArray), (6, .agg (peerC ys t).toArray)] = some (pre ++ (peerC xs s ++ (mid ++ (peerC ys t ++ post)))).toArray := by
      rw [built100, hz]
      rw [fill_part (pre := pre) (old := peerC z20 .empty) (post := mid ++ (peerC z20 .empty ++ post)) (vs := peerC xs s) (off := 16) (size := 21) rfl place100_1 h1 (by rw [peerC_length _ _ z20_length]) hpx]
      have e2 := fill_part (place := fun i => (((Try.prog.fieldsOf 100).toList.mapM (fun f => (Try.prog.info? f.type).map fun i => (f.offset, i.size))).getD []).toArray[i]?) (pre := pre ++ (peerC xs s ++ mid)) (old := peerC z20 .empty)
        (post := post) (vs := peerC ys t) (V := .agg (peerC ys t).toArray) (i := 6) (rest := []) rfl place100_6 (by simp [h1, h2, hpx]) (by rw [peerC_length _ _ z20_length]) hpy
      simp only [List.append_assoc] at e2
      rw [e2]
      rfl
    simp only [bldA, Sem.run_bind, run_build w 100 _ _ h, Result.andThen_ok, Sem.run_pure]

/-! ### the walk's rules -/
theorem ex_load25 (ρ : Operand → Value) (dst : Option Tmp) (x : Operand) (ty : TypeId) (pos : String) (after : Array Edge) (guard : Option (Nat × Bool)) : execOp ρ { dst, op := .load 25 x, type := ty, pos, after, guard } = ldA 25 (ρ x) := rfl
theorem ex_load29 (ρ : Operand → Value) (dst : Option Tmp) (x : Operand) (ty : TypeId) (pos : String) (after : Array Edge) (guard : Option (Nat × Bool)) : execOp ρ { dst, op := .load 29 x, type := ty, pos, after, guard } = ldA 29 (ρ x) := rfl
theorem ex_load31 (ρ : Operand → Value) (dst : Option Tmp) (x : Operand) (ty : TypeId) (pos : String) (after : Array Edge) (guard : Option (Nat × Bool)) : execOp ρ { dst, op := .load 31 x, type := ty, pos, after, guard } = ldA 31 (ρ x) := rfl
theorem ex_build31 (ρ : Operand → Value) (dst : Option Tmp) (ps : Array (Nat × Operand)) (ty : TypeId) (pos : String) (after : Array Edge) (guard : Option (Nat × Bool)) : execOp ρ { dst, op := .build 31 ps, type := ty, pos, after, guard } = bldA 31 (ps.map fun (i, x) => (i, ρ x)) := rfl
theorem ex_build100 (ρ : Operand → Value) (dst : Option Tmp) (ps : Array (Nat × Operand)) (ty : TypeId) (pos : String) (after : Array Edge) (guard : Option (Nat × Bool)) : execOp ρ { dst, op := .build 100 ps, type := ty, pos, after, guard } = bldA 100 (ps.map fun (i, x) => (i, ρ x)) := rfl
theorem ex_alloc31 (ρ : Operand → Value) (dst : Option Tmp) (ty : TypeId) (pos : String) (after : Array Edge) (guard : Option (Nat × Bool)) : execOp ρ { dst, op := .alloc 31, type := ty, pos, after, guard } = alA 31 := rfl
theorem ex_store31 (ρ : Operand → Value) (dst : Option Tmp) (x y : Operand) (ty : TypeId) (pos : String) (after : Array Edge) (guard : Option (Nat × Bool)) : execOp ρ { dst, op := .store 31 x y, type := ty, pos, after, guard } = stA 31 (ρ x) (ρ y) := rfl
theorem ex_eql31 (ρ : Operand → Value) (dst : Option Tmp) (x y : Operand) (yt ty : TypeId) (pos : String) (after : Array Edge) (guard : Option (Nat × Bool)) : execOp ρ { dst, op := .binOp .eql 31 x y yt, type := ty, pos, after, guard } = eqA .eql 31 x y (ρ x) (ρ y) := rfl
theorem ex_neq31 (ρ : Operand → Value) (dst : Option Tmp) (x y : Operand) (yt ty : TypeId) (pos : String) (after : Array Edge) (guard : Option (Nat × Bool)) : execOp ρ { dst, op := .binOp .neq 31 x y yt, type := ty, pos, after, guard } = eqA .neq 31 x y (ρ x) (ρ y) := rfl

theorem run_ld25 (w : World) (b o : Nat) : (ldA 25 (.pointer (some ⟨b, o, none⟩))).run Try.prog w = match rd w b o 20 with | some cs => .ok (.value (.agg cs.toArray)) w | none => (ldB 25 (.pointer (some ⟨b, o, none⟩))).run Try.prog w := run_ldA Try.underlying25 rfl size25
theorem run_ld29 (w : World) (b o : Nat) : (ldA 29 (.pointer (some ⟨b, o, none⟩))).run Try.prog w = match rd w b o 20 with | some cs => .ok (.value (.agg cs.toArray)) w | none => (ldB 29 (.pointer (some ⟨b, o, none⟩))).run Try.prog w := run_ldA Try.underlying29 rfl size29
theorem run_ld31 (w : World) (b o : Nat) : (ldA 31 (.pointer (some ⟨b, o, none⟩))).run Try.prog w = match rd w b o 21 with | some cs => .ok (.value (.agg cs.toArray)) w | none => (ldB 31 (.pointer (some ⟨b, o, none⟩))).run Try.prog w := run_ldA Try.underlying31 rfl size31
theorem run_al31 (w : World) : (alA 31).run Try.prog w = .ok (.value (.pointer (some ⟨w.heap.size, 0, none⟩))) (w.alloc (.cells (peerC z20 .empty).toArray 31)) := by
  have hz : ∃ i, Try.prog.info? 31 = some i ∧ i.zero = some (.agg (peerC z20 .empty).toArray) := by
    have h := zero31
    cases hi : Try.prog.info? 31 with
    | none => simp [hi] at h
    | some i => exact ⟨i, rfl, by simpa [hi] using h⟩
  obtain ⟨i, hi, hz⟩ := hz
  simp [alA, Instr.alloc, zeroValue, typeInfo, hi, hz, newVar, newRow, Value.cells]
theorem run_st31 (w : World) (xs ys : List Int) (s t : ByteArray) (b : Nat) (hb : b = w.heap.size) (hx : xs.length = 20) (hy : ys.length = 20) :
    (stA 31 (.pointer (some ⟨b, 0, none⟩)) (.agg (peerC ys t).toArray)).run Try.prog (w.alloc (.cells (peerC xs s).toArray 31)) = .ok .skip (w.alloc (.cells (peerC ys t).toArray 31)) :=
  run_stA_new (n := 21) hb (by simp [peerC_length xs s hx]) (peerC_length ys t hy) (one_peerC ys t) size31

theorem guard31 : Try.prog.eqGuardType Try.prog.depth 31 = false := by kernel_rfl
theorem held31 : Try.prog.stoodInHeld 31 = false := by kernel_rfl
theorem under31 : Try.prog.underlying 31 = some (.struct (Try.prog.fieldsOf 31)) := by kernel_rfl
theorem fields31 : (Try.prog.fieldsOf 31).toList = [{ name := "ID", type := 29, offset := 0, embedded := false, tag := "", pkgPath := "", byteOffset := 0 }, { name := "Addr", type := 9, offset := 20, embedded := false, tag := "", pkgPath := "", byteOffset := 24 }] := by kernel_rfl

theorem part31_id (w : World) (zs : List Int) (u : ByteArray) (hz : zs.length = 20) : (part 29 (peerC zs u).toArray 0).run Try.prog w = .ok (.agg (cs8 zs).toArray) w := by
  obtain ⟨i, hi, hi1⟩ : ∃ i, Try.prog.info? 29 = some i ∧ i.size = 20 := by
    have h := size29
    cases hi : Try.prog.info? 29 with
    | none => simp [hi] at h
    | some i => exact ⟨i, rfl, by simpa [hi] using h⟩
  have e : (peerC zs u).take 20 = cs8 zs := List.take_left' (by simp [cs8, hz])
  simp [part, isAgg, Sem.run_bind, run_underlying Try.underlying29, sizeOf, typeInfo, hi, hi1, e]
theorem part31_addr (w : World) (zs : List Int) (u : ByteArray) (hz : zs.length = 20) : (part 9 (peerC zs u).toArray 20).run Try.prog w = .ok (.string u) w := by
  have e : (peerC zs u).toArray[20]? = some (.string u) := by simp [peerC, cs8, hz]
  simp [part, isAgg, Sem.run_bind, run_underlying Try.underlying9, e]
theorem eq31_a (w : World) (d : Nat) (xs ys : List Int) (s t : ByteArray) :
    (Op.equalIn (d + 3) 31 (.agg (peerC xs s).toArray) (.agg (peerC ys t).toArray)).run Try.prog w = (Op.eqFields (d + 2) (peerC xs s).toArray (peerC ys t).toArray (Try.prog.fieldsOf 31).toList).run Try.prog w :=
  run_equalIn_struct w (d + 2) 31 _ _ under31 held31

theorem eq31_b (w : World) (d : Nat) (xs ys : List Int) (s t : ByteArray) (hx : xs.length = 20) (hy : ys.length = 20) :
    (Op.eqFields (d + 2) (peerC xs s).toArray (peerC ys t).toArray [{ name := "ID", type := 29, offset := 0, embedded := false, tag := "", pkgPath := "", byteOffset := 0 }, { name := "Addr", type := 9, offset := 20, embedded := false, tag := "", pkgPath := "", byteOffset := 24 }]).run Try.prog w = .ok ((xs == ys) && (s.toList == t.toList)) w := by
  rw [Op.eqFields, if_pos (by simp)]
  dsimp only
  rw [Sem.run_bind, part31_id w xs s hx, Result.andThen_ok, Sem.run_bind, part31_id w ys t hy, Result.andThen_ok, Sem.run_bind]
  rw [run_equalIn_bytes w d 29 5 20 xs ys Try.underlying29 Try.underlying5 size5 hx hy, Result.andThen_ok]
  cases xs == ys
  · simp
  · rw [if_neg (by simp), Op.eqFields, if_pos (by simp)]
    dsimp only
    rw [Sem.run_bind, part31_addr w xs s hx, Result.andThen_ok, Sem.run_bind, part31_addr w ys t hy, Result.andThen_ok, Sem.run_bind, run_equalIn_string w (d + 1) 9 s t Try.underlying9, Result.andThen_ok]
    cases s.toList == t.toList
    · simp
    · simp [Op.eqFields]

theorem eq31 (w : World) (d : Nat) (xs ys : List Int) (s t : ByteArray) (hx : xs.length = 20) (hy : ys.length = 20) :
    (Op.equalIn (d + 3) 31 (.agg (peerC xs s).toArray) (.agg (peerC ys t).toArray)).run Try.prog w = .ok ((xs == ys) && (s.toList == t.toList)) w := by
  rw [eq31_a, fields31, eq31_b w d xs ys s t hx hy]

theorem run_eql31 (w : World) (x y : Operand) (xs ys : List Int) (s t : ByteArray) (hx : xs.length = 20) (hy : ys.length = 20) :
    (eqA .eql 31 x y (.agg (peerC xs s).toArray) (.agg (peerC ys t).toArray)).run Try.prog w = .ok (.value (.bool ((xs == ys) && (s.toList == t.toList)))) w := by
  have h := eq31 w 9997 xs ys s t hx hy
  simp only [eqA, Sem.run_bind, run_eqGuard_agg w .eql 31 x y _ _ guard31, Result.andThen_ok, run_eql_struct, h, Sem.run_pure]
theorem run_neq31 (w : World) (x y : Operand) (xs ys : List Int) (s t : ByteArray) (hx : xs.length = 20) (hy : ys.length = 20) :
    (eqA .neq 31 x y (.agg (peerC xs s).toArray) (.agg (peerC ys t).toArray)).run Try.prog w = .ok (.value (.bool (!((xs == ys) && (s.toList == t.toList))))) w := by
  have h := eq31 w 9997 xs ys s t hx hy
  simp only [eqA, Sem.run_bind, run_eqGuard_agg w .neq 31 x y _ _ guard31, Result.andThen_ok, run_neq_struct, h, Sem.run_pure]

attribute [local go_sem ↓] ex_load25 ex_load29 ex_load31 ex_build31 ex_build100 ex_alloc31 ex_store31 ex_eql31 ex_neq31
attribute [local go_sem] run_ld25 run_ld29 run_ld31 run_al31 run_st31 run_bld31_0 run_bld31 run_bld31' run_eql31 run_neq31 rd_drew rd_drewN rd_alloc_past rd_alloc_row peerC_length z20_length

/-- is it the zero Peer? -/
def isZ (ys : List Int) (t : ByteArray) : Bool := (ys == z20) && t.toList.isEmpty

set_option maxHeartbeats 400000 in
theorem isZero_any (ys : List Int) (t : ByteArray) (hy : ys.length = 20) (w : World) :
    Calls Try.prog 36 #[.agg (peerC ys t).toArray] w fun e w' => e = .returned (.bool (isZ ys t)) ∧ Below w.heap.size w w' := by
  go_enter Try.func36, Try.ntmps36
  go_wp2
  go_ret
  exact ⟨rfl, (Below.refl _ _).alloc (Nat.le_refl _) _⟩

theorem later_ne (w : World) : Nonempty (Later w) := ⟨⟨w, Below.refl _ _⟩⟩

theorem rd_id {w : World} {b o : Nat} {xs : List Int} {s : ByteArray} (hx : xs.length = 20) (h : rd w b o 21 = some (peerC xs s)) : rd w b o 20 = some (cs8 xs) := by
  have := rd_sub h 0 20 (by omega)
  rw [Nat.add_zero, List.drop_zero, peerC, List.take_left' (by simp [cs8, hx])] at this
  exact this

/-- what first answers -/
def firstB (xs ys : List Int) (t : ByteArray) : Bool := !isZ ys t && !lexLt ys xs

set_option maxHeartbeats 1000000 in
theorem first_any (b : Nat) (xs ys : List Int) (s t : ByteArray) (hx : xs.length = 20) (hy : ys.length = 20) (bx : Bytes xs) (yb : Bytes ys) (w : World) (hs : rd w b 16 21 = some (peerC xs s)) (hp : rd w b 41 21 = some (peerC ys t)) :
    Calls Try.prog 33 #[.pointer (some ⟨b, 0, none⟩)] w fun e w' => e = .returned (.bool (firstB xs ys t)) ∧ Below w.heap.size w w' := by
  have hb := rd_lt hs (by omega)
  have h1 := rd_id hx hs
  have h2 := rd_id hy hp
  have hp' : ∀ z : Later w, rd z.to b 41 21 = some (peerC ys t) := fun z => (z.rd b 41 21 hb).trans hp
  have h1' : ∀ z : Later w, rd z.to b 16 20 = some (cs8 xs) := fun z => (z.rd b 16 20 hb).trans h1
  have h2' : ∀ z : Later w, rd z.to b 41 20 = some (cs8 ys) := fun z => (z.rd b 41 20 hb).trans h2
  clear hs hp h1 h2
  have hne : Nonempty (Later w) := later_ne w
  have hc36 : ∀ z : Later w, Calls Try.prog 36 #[.agg (peerC ys t).toArray] z.to fun e w'' => e = .returned (.bool (isZ ys t)) ∧ ∃ z' : Later w, w'' = z'.to := fun z => later_of z (isZero_any ys t hy z.to)
  have hc35 : ∀ z : Later w, Calls Try.prog 35 #[.slice (some ⟨b, 41, none⟩) 20 20, .slice (some ⟨b, 16, none⟩) 20 20] z.to fun e w'' => e = .returned (.int .i64 (cmpv ys xs)) ∧ ∃ z' : Later w, w'' = z'.to := fun z => later_of_same z (compare_any b 41 20 b 16 20 ys xs hy hx z.to (h2' z) (h1' z))
  have hcv : Hid (decide (0 ≤ cmpv ys xs) = !lexLt ys xs) := cmpv_ge ys xs yb bx
  have hfb : Hid (firstB xs ys t = (!isZ ys t && !lexLt ys xs)) := rfl
  clear h1' h2' hb
  generalize firstB xs ys t = fb at *
  generalize isZ ys t = iz at *
  generalize cmpv ys xs = cv at *
  cases iz
  · go_enter Try.func33, Try.ntmps33
    go_wp2
    refine wp_region_later (by kernel_rfl) (by kernel_rfl) ?_
    repeat (go_big_quiet_step (first | (go_at_call 36; exact hc36 _) | (go_at_call 35; exact hc35 _)))
    refine wpQuiet_nil ?_
    rintro _ ⟨z, rfl⟩
    go_wp2
    go_ret
    exact ⟨ret_bool (by rw [hfb.out, ← hcv.out]; rfl), z.bel⟩
  · go_enter Try.func33, Try.ntmps33
    go_wp2
    refine wp_region_later (by kernel_rfl) (by kernel_rfl) ?_
    repeat (go_big_quiet_step (first | (go_at_call 36; exact hc36 _) | (go_at_call 35; exact hc35 _)))
    refine wpQuiet_nil ?_
    rintro _ ⟨z, rfl⟩
    go_wp2
    go_ret
    exact ⟨ret_bool (by rw [hfb.out]; rfl), z.bel⟩

set_option maxHeartbeats 1000000 in
theorem nodeFirst_any (xs ys : List Int) (s t : ByteArray) (hx : xs.length = 20) (hy : ys.length = 20) (bx : Bytes xs) (yb : Bytes ys) (w : World) :
    Calls Try.prog 15 #[.agg (peerC xs s).toArray, .agg (peerC ys t).toArray] w fun e w' => e = .returned (.bool (firstB xs ys t)) ∧ Below w.heap.size w w' := by
  obtain ⟨C, hC, hC1, hC2, hrun⟩ := run_bld100 xs s ys t hx hy
  have HC1 : Hid ((C.drop 16).take 21 = peerC xs s) := hC1
  have HC2 : Hid ((C.drop 41).take 21 = peerC ys t) := hC2
  clear hC1 hC2
  go_enter Try.func15, Try.ntmps15
  go_wp2_with (go_at_call 33; refine (first_any _ xs ys s t hx hy bx yb _ ?h1 ?h2).mono ?h3)
  case h1 => rw [rd_alloc_at _ _ _ _ _ _ (by simp) (by simp; omega), List.toList_toArray, HC1.out]
  case h2 => rw [rd_alloc_at _ _ _ _ _ _ (by simp) (by simp; omega), List.toList_toArray, HC2.out]
  rintro e w' ⟨rfl, hb⟩
  go_wp2
  go_ret
  exact ⟨rfl, ((((Below.refl _ _).alloc (Nat.le_refl _) _).alloc (by simp) _).alloc (by simp; omega) _).trans (hb.mono (by simp; omega))⟩
end Go.Proofs.Qxb6612300a
