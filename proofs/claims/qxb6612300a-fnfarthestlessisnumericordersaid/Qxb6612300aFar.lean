/- The walks of (farthest).Less (32), ZZfarthestLess (10), and the two byte counts (9, 12). -/
import Derived.Test.Qxb6612300aNode
import Derived.Test.Qxb6612300aLaws2
import Derived.Test.Qxb6612300aThen
namespace Go.Proofs.Qxb6612300a
open Go.RowKit
set_option linter.unusedVariables false

/-- it answered with a bool -/
def IsBool (e : Ending) : Prop := ∃ b, e = .returned (.bool b)
theorem isBool (b : Bool) : IsBool (.returned (.bool b)) := ⟨b, rfl⟩

theorem size70 : (Try.prog.info? 70).map (·.size) = some 40 := by kernel_rfl
theorem size26 : (Try.prog.info? 26).map (·.size) = some 40 := by kernel_rfl

set_option maxHeartbeats 1000000 in
theorem less_any (b off len cap i j : Nat) (B : Nat → List Int) (hB : ∀ k, k < len → (B k).length = 20 ∧ Bytes (B k)) (hi : i < len) (hj : j < len) (w : World)
    (hr : ∀ k, k < len → rd w b (off + k * 40 + 20) 20 = some (cs8 (B k))) :
    Calls Try.prog 32 #[.slice (some ⟨b, off, none⟩) len cap, .int .i64 i, .int .i64 j] w fun e w' => e = .returned (.bool (lexLt (B i) (B j))) ∧ Below w.heap.size w w' := by
  have hb : b < w.heap.size := rd_lt (hr i hi) (by omega)
  have hc35 : ∀ z : Later w, Calls Try.prog 35 #[.slice (some ⟨b, off + i * 40 + 20, none⟩) 20 20, .slice (some ⟨b, off + j * 40 + 20, none⟩) 20 20] z.to fun e w'' => e = .returned (.int .i64 (cmpv (B i) (B j))) ∧ ∃ z' : Later w, w'' = z'.to :=
    fun z => later_of_same z (compare_any b _ 20 b _ 20 (B i) (B j) (hB i hi).1 (hB j hj).1 z.to ((z.rd _ _ _ hb).trans (hr i hi)) ((z.rd _ _ _ hb).trans (hr j hj)))
  have hcv : Hid (decide (cmpv (B i) (B j) < 0) = lexLt (B i) (B j)) := cmpv_lt _ _ (hB i hi).2 (hB j hj).2
  have hne := later_ne w
  clear hr hB
  generalize lexLt (B i) (B j) = lb at *
  generalize cmpv (B i) (B j) = cv at *
  go_enter Try.func32, Try.ntmps32
  go_wp2
  refine wp_region_later (by kernel_rfl) (by kernel_rfl) ?_
  repeat (go_big_quiet_step (first | (go_at_call 35; exact hc35 _)))
  refine wpQuiet_nil ?_
  rintro _ ⟨z, rfl⟩
  go_wp2
  go_ret
  exact ⟨ret_bool hcv.out, z.bel⟩

set_option maxHeartbeats 400000 in
theorem zzBytes9_any (a : Option Addr) (len cap : Nat) (i j : Int) (hl : len ≤ maxLen) (w : World) :
    Calls Try.prog 9 #[.slice a len cap, .int .i64 i, .int .i64 j] w fun e w' => IsBool e ∧ w' = w := by
  unfold maxLen at hl
  by_cases hbig : (1048576 : Int) < len
  · go_enter Try.func9, Try.ntmps9
    go_wp2
    go_ret
    first | exact ⟨isBool _, rfl⟩ | exact isBool _
  · have hd : decide ((1048576 : Int) < len) = false := by simpa using hbig
    go_enter Try.func9, Try.ntmps9
    go_wp2
    go_loop [7, 8] (fun z i => ∃ (k : Nat) (m : Int), k ≤ len ∧ 0 ≤ m ∧ m ≤ 1048576 ∧ i = .int .i64 k ∧ z = .int .i64 m) (fun _ i => len - (intOf i).toNat)
    case atStart => exact ⟨0, len, by omega, by omega, by omega, rfl, rfl⟩
    case round =>
      obtain ⟨k, m, hk, hm0, hm, rfl, rfl⟩ := hrel
      by_cases hlt : k < len
      · go_wp2
        go_loop [7, 9] (fun z i => ∃ (q : Nat) (m : Int), q ≤ 2 ∧ 0 ≤ m ∧ m ≤ 1048576 ∧ i = .int .i64 q ∧ z = .int .i64 m) (fun _ i => 2 - (intOf i).toNat)
        case atStart => exact ⟨0, m, by omega, by omega, by omega, rfl, rfl⟩
        case round =>
          obtain ⟨q, m2, hq, hm20, hm2, rfl, rfl⟩ := hrel
          by_cases hlt2 : q < 2
          · go_wp2
            · go_ret
              first | exact ⟨isBool _, rfl⟩ | exact isBool _
            · go_round
              case rel => exact ⟨q + 1, m2 + 20, by omega, by omega, by omega, by go_num, rfl⟩
              case measure => simp [intOf]; omega
          · go_wp2
            go_round
            case rel => exact ⟨k + 1, m2, by omega, by omega, by omega, by go_num, rfl⟩
            case measure => simp [intOf]; omega
      · go_wp2
        go_ret
        first | exact ⟨isBool _, rfl⟩ | exact isBool _
set_option maxHeartbeats 400000 in
theorem zzBytes12_any (a : Option Addr) (len cap : Nat) (i j l : Int) (hl : len ≤ maxLen) (w : World) :
    Calls Try.prog 12 #[.slice a len cap, .int .i64 i, .int .i64 j, .int .i64 l] w fun e w' => IsBool e ∧ w' = w := by
  unfold maxLen at hl
  by_cases hbig : (1048576 : Int) < len
  · go_enter Try.func12, Try.ntmps12
    go_wp2
    go_ret
    first | exact ⟨isBool _, rfl⟩ | exact isBool _
  · have hd : decide ((1048576 : Int) < len) = false := by simpa using hbig
    go_enter Try.func12, Try.ntmps12
    go_wp2
    go_loop [9, 10] (fun z i => ∃ (k : Nat) (m : Int), k ≤ len ∧ 0 ≤ m ∧ m ≤ 1048576 ∧ i = .int .i64 k ∧ z = .int .i64 m) (fun _ i => len - (intOf i).toNat)
    case atStart => exact ⟨0, len, by omega, by omega, by omega, rfl, rfl⟩
    case round =>
      obtain ⟨k, m, hk, hm0, hm, rfl, rfl⟩ := hrel
      by_cases hlt : k < len
      · go_wp2
        go_loop [9, 11] (fun z i => ∃ (q : Nat) (m : Int), q ≤ 2 ∧ 0 ≤ m ∧ m ≤ 1048576 ∧ i = .int .i64 q ∧ z = .int .i64 m) (fun _ i => 2 - (intOf i).toNat)
        case atStart => exact ⟨0, m, by omega, by omega, by omega, rfl, rfl⟩
        case round =>
          obtain ⟨q, m2, hq, hm20, hm2, rfl, rfl⟩ := hrel
          by_cases hlt2 : q < 2
          · go_wp2
            · go_ret
              first | exact ⟨isBool _, rfl⟩ | exact isBool _
            · go_round
              case rel => exact ⟨q + 1, m2 + 20, by omega, by omega, by omega, by go_num, rfl⟩
              case measure => simp [intOf]; omega
          · go_wp2
            go_round
            case rel => exact ⟨k + 1, m2, by omega, by omega, by omega, by go_num, rfl⟩
            case measure => simp [intOf]; omega
      · go_wp2
        go_ret
        first | exact ⟨isBool _, rfl⟩ | exact isBool _

/-- 'make' of rows, at a length of Go's own -/
theorem mk_rows (t e n bytes : Nat) (ht : Try.prog.underlying t = some (.slice e)) (hs : (Try.prog.info? e).map (·.size) = some n) (hby : (Try.prog.info? e).map (·.bytes) = some bytes) (hz : ((Try.prog.info? e).bind (·.zero)).isSome = true)
    (len : Nat) (h : bytes * len ≤ 281474976710656) (hl : len ≤ maxLen) :
    ∃ C : Array Value, C.size = len * n ∧ ∀ W : World, (Instr.makeSlice t (.int .i64 len) (.int .i64 len)).run Try.prog W = .ok (.slice (some ⟨W.heap.size, 0, none⟩) len len) (W.alloc (.cells C e)) := by
  unfold maxLen at hl
  cases hi : Try.prog.info? e with
  | none => rw [hi] at hs; cases hs
  | some i =>
    rw [hi] at hs hby hz
    simp at hs hby hz
    obtain ⟨z, hz⟩ := Option.isSome_iff_exists.1 hz
    refine ⟨madeCells z.cells (len * n), by simp [size_madeCells], fun W => ?_⟩
    have := run_make (P := Try.prog) W t e i z ht hi hz .i64 .i64 len len (by omega) (by omega) (by rw [hby]; omega) (by omega)
    simpa [hs] using this

theorem built70 (parts : List (Nat × Value)) : Try.prog.built 70 parts = Instr.fill (fun i => (#[(0, 20), (20, 20)] : Array (Nat × Nat))[i]?) (cs8 (List.replicate 20 0) ++ cs8 (List.replicate 20 0)).toArray parts := by kernel_rfl
theorem run_bld70 (w : World) (xs ys : List Int) (hx : xs.length = 20) (hy : ys.length = 20) :
    (bldA 70 #[(0, .agg (cs8 xs).toArray), (1, .agg (cs8 ys).toArray)]).run Try.prog w = .ok (.value (.agg (cs8 xs ++ cs8 ys).toArray)) w := by
  have h : Try.prog.built 70 [(0, .agg (cs8 xs).toArray), (1, .agg (cs8 ys).toArray)] = some (cs8 xs ++ cs8 ys).toArray := by
    rw [built70]
    have e1 := fill_part (place := fun i => (#[(0, 20), (20, 20)] : Array (Nat × Nat))[i]?) (pre := []) (old := cs8 (List.replicate 20 0)) (post := cs8 (List.replicate 20 0)) (vs := cs8 xs) (V := .agg (cs8 xs).toArray) (i := 0) (rest := [(1, .agg (cs8 ys).toArray)])
      rfl rfl rfl (by simp [cs8]) (by simp [cs8, hx])
    have e2 := fill_part (place := fun i => (#[(0, 20), (20, 20)] : Array (Nat × Nat))[i]?) (pre := cs8 xs) (old := cs8 (List.replicate 20 0)) (post := []) (vs := cs8 ys) (V := .agg (cs8 ys).toArray) (i := 1) (rest := [])
      rfl rfl (by simp [cs8, hx]) (by simp [cs8]) (by simp [cs8, hy])
    simp only [List.nil_append, List.append_nil] at e1 e2
    exact e1.trans e2
  simp only [bldA, Sem.run_bind, run_build w 70 _ _ h, Result.andThen_ok, Sem.run_pure]
theorem ex_build70 (ρ : Operand → Value) (dst : Option Tmp) (ps : Array (Nat × Operand)) (ty : TypeId) (pos : String) (after : Array Edge) (guard : Option (Nat × Bool)) : execOp ρ { dst, op := .build 70 ps, type := ty, pos, after, guard } = bldA 70 (ps.map fun (i, x) => (i, ρ x)) := rfl

theorem ex_store70 (ρ : Operand → Value) (dst : Option Tmp) (x y : Operand) (ty : TypeId) (pos : String) (after : Array Edge) (guard : Option (Nat × Bool)) : execOp ρ { dst, op := .store 70 x y, type := ty, pos, after, guard } = stA 70 (ρ x) (ρ y) := rfl

attribute [local go_sem ↓] ex_load25 ex_build70 ex_store70
attribute [local go_sem] run_ld25 run_bld70

theorem one_two (xs ys : List Int) : ∀ v ∈ cs8 xs ++ cs8 ys, v.oneCell' = true := fun v hv => (List.mem_append.1 hv).elim (one_cs8 xs v) (one_cs8 ys v)

set_option maxHeartbeats 1000000 in
theorem farLess_any (b off len cap i j : Nat) (K B : Nat → List Int) (hK : ∀ k, k < len → (K k).length = 20) (hB : ∀ k, k < len → (B k).length = 20 ∧ Bytes (B k)) (hi : i < len) (hj : j < len) (hl : len ≤ 16384) (w : World)
    (hr : ∀ k, k < len → rd w b (off + k * 40) 20 = some (cs8 (K k)) ∧ rd w b (off + k * 40 + 20) 20 = some (cs8 (B k))) :
    Calls Try.prog 10 #[.slice (some ⟨b, off, none⟩) len cap, .int .i64 i, .int .i64 j] w fun e w' => e = .returned (.bool (lexLt (B i) (B j))) ∧ Below w.heap.size w w' := by
  have hb : b < w.heap.size := rd_lt (hr i hi).1 (by omega)
  obtain ⟨C, hC, hmk⟩ := mk_rows 68 70 40 40 Try.underlying68 size70 (by kernel_rfl) (by kernel_rfl) len (by omega) (by unfold maxLen; omega)
  go_enter Try.func10, Try.ntmps10
  go_wp2
  go_loopw [14] (fun k wr => ∃ m : Nat, m ≤ len ∧ k = .int .i64 m ∧ Below w.heap.size w wr ∧ Hid (wr.there w.heap.size 0 (len * 40)) ∧ Hid (∀ q, q < m → rd wr w.heap.size (0 + q * 40 + 20) 20 = some (cs8 (B q)))) (fun k _ => len - (intOf k).toNat)
  case atStart => exact ⟨0, by omega, rfl, (Below.refl _ _).alloc (Nat.le_refl _) _, there_new w C 70 _ (by omega), (fun q hq => by omega)⟩
  case round =>
    obtain ⟨m, hm, rfl, hW, Ht, Hq⟩ := hrel
    rename_i wr
    by_cases hlt : m < len
    · obtain ⟨r1, r2⟩ := hr m hlt
      have hbr : b < wr.heap.size := by have := hW.size; omega
      have q1 : ∀ z : Later wr, rd z.to b (off + m * 40) 20 = some (cs8 (K m)) := fun z => (z.rd _ _ _ hbr).trans ((rd_below hW hb _ _).trans r1)
      have q2 : ∀ z : Later wr, rd z.to b (off + m * 40 + 20) 20 = some (cs8 (B m)) := fun z => (z.rd _ _ _ hbr).trans ((rd_below hW hb _ _).trans r2)
      have hg : w.heap.size < wr.heap.size := there_lt Ht.out (by omega)
      have hst : ∀ z : Later wr, (stA 70 (.pointer (some ⟨w.heap.size, m * 40, none⟩)) (.agg (cs8 (K m) ++ cs8 (B m)).toArray)).run Try.prog z.to = .ok .skip (z.to.setCells w.heap.size (m * 40) (cs8 (K m) ++ cs8 (B m))) := fun z =>
        run_stA_mid (n := 40) (there_sub (there_below z.bel hg Ht.out) _ _ (by omega) (by omega)) (by simp [cs8, hK m hlt, (hB m hlt).1]) (one_two _ _) size70
      have hk20 := hK m hlt
      have hb20 := (hB m hlt).1
      have hne := later_ne wr
      have HK : Hid (∀ z : Later wr, ∀ q, q < m + 1 → rd (z.to.setCells w.heap.size (m * 40) (cs8 (K m) ++ cs8 (B m))) w.heap.size (0 + q * 40 + 20) 20 = some (cs8 (B q))) := fun z q hq => by
        by_cases e : q = m
        · subst e
          have h1 := rd_setCells_same (vs := cs8 (K q) ++ cs8 (B q)) (there_sub (there_below z.bel hg Ht.out) (q * 40) 40 (by omega) (by omega)) (by simp [cs8, hk20, hb20])
          have h2 := rd_sub h1 20 20 (by omega)
          rw [List.drop_left' (by simp [cs8, hk20]), List.take_of_length_le (by simp [cs8, hb20]), show q * 40 + 20 = 0 + q * 40 + 20 from by omega] at h2
          exact h2
        · exact rd_setCells_apart ((z.rd _ _ _ hg).trans (Hq.out q (by omega))) _ _ _ (by simp [cs8, hk20, hb20]; omega)
      clear hr r1 r2 hK hB
      generalize K m = xk at *
      generalize hbm : B m = xb at *
      go_wp2
      refine wp_region_thenN 14 (by kernel_rfl) (by kernel_rfl) ?_
      simp only [List.take_succ_cons, List.take_zero, List.drop_succ_cons, List.drop_zero]
      repeat (go_big_quiet_step (fail))
      refine wpQuiet_nil ?_
      rintro _ ⟨z, rfl⟩
      go_wp2
      exact ⟨⟨m + 1, by omega, by go_num, bel_setCells (Nat.le_refl _) _ _ _ (hW.trans (z.bel.mono hW.size)), World.there_setCells (there_below z.bel hg Ht.out) _ _ _, HK.out z⟩, by simp [intOf]; omega⟩
    · obtain rfl : m = len := by omega
      clear hr
      go_wp2_with (go_at_call 32; refine (less_any w.heap.size 0 m m i j B hB hi hj wr Hq.out).mono ?_)
      rintro e w3 ⟨rfl, hb3⟩
      go_wp2
      go_ret
      exact ⟨rfl, hW.trans (hb3.mono hW.size)⟩
end Go.Proofs.Qxb6612300a
