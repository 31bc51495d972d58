/- The walks of itemBytes (19), zzBytes (18), toItems (20), itemsAt (31). -/
import Derived.Test.Qxb6612300aItems
namespace Go.Proofs.Qxb6612300a
open Go.RowKit
set_option linter.unusedVariables false

/-- the items that lie in a slice -/
structure ItemsAt (w : World) (b off len : Nat) (K : Nat → List Int) (V : Nat → ByteArray) (N : Nat → Int) : Prop where
  key : ∀ i, i < len → (K i).length = 20
  lie : ∀ i, i < len → rd w b (off + i * 22) 22 = some (itemC (K i) (V i) (N i))

theorem ItemsAt.below {w w' : World} {b off len : Nat} {K : Nat → List Int} {V : Nat → ByteArray} {N : Nat → Int} (h : ItemsAt w b off len K V N) {B : Nat} (hb : Below B w w') (hlt : b < B) : ItemsAt w' b off len K V N :=
  ⟨h.key, fun i hi => (rd_below hb hlt _ _).trans (h.lie i hi)⟩
theorem ItemsAt.lt {w : World} {b off len : Nat} {K : Nat → List Int} {V : Nat → ByteArray} {N : Nat → Int} (h : ItemsAt w b off len K V N) (h0 : 0 < len) : b < w.heap.size := rd_lt (h.lie 0 h0) (by omega)

set_option maxRecDepth 100000 in
set_option maxHeartbeats 400000 in
theorem itemBytes_any (b off len cap : Nat) (K : Nat → List Int) (V : Nat → ByteArray) (N : Nat → Int) (hl : len ≤ maxLen) (w : World) (h : ItemsAt w b off len K V N) :
    Calls Try.prog 19 #[.slice (some ⟨b, off, none⟩) len cap] w fun e w' => IsInt e ∧ w' = w := by
  unfold maxLen at hl
  go_enter Try.func19, Try.ntmps19
  go_wp2
  go_loop [3, 4] (fun z i => ∃ (k : Nat) (m : Int), k ≤ len ∧ i = .int .i64 k ∧ z = .int .i64 m) (fun _ i => len - (intOf i).toNat)
  case atStart => exact ⟨0, 0, by omega, rfl, rfl⟩
  case round =>
    obtain ⟨k, m, hk, rfl, rfl⟩ := hrel
    by_cases hlt : k < len
    · have hv := item_val (h.key k hlt) (h.lie k hlt)
      clear h
      generalize V k = v at *
      go_wp2
      · go_ret
        first | exact ⟨isInt _, rfl⟩ | exact isInt _
      · go_round
        case rel => exact ⟨k + 1, _, by omega, by go_num, rfl⟩
        case measure => simp [intOf]; omega
    · go_wp2
      go_ret
      first | exact ⟨isInt _, rfl⟩ | exact isInt _

set_option maxRecDepth 100000 in
set_option maxHeartbeats 400000 in
theorem itemBytes_zero (a : Option Addr) (cap : Nat) (w : World) :
    Calls Try.prog 19 #[.slice a 0 cap] w fun e w' => IsInt e ∧ w' = w := by
  go_enter Try.func19, Try.ntmps19
  go_wp2
  refine wp_loop_once ?_
  go_wp2
  go_ret
  first | exact ⟨isInt _, rfl⟩ | exact isInt _

set_option maxRecDepth 100000 in
set_option maxHeartbeats 400000 in
theorem zzBytes7_any (b off len cap : Nat) (K : Nat → List Int) (V : Nat → ByteArray) (N : Nat → Int) (A : Array Value) (hl : len ≤ maxLen) (w : World) (h0 : 0 < len) (h : ItemsAt w b off len K V N) :
    Calls Try.prog 18 #[.slice (some ⟨b, off, none⟩) len cap, .agg A] w fun e w' => IsBool e ∧ Below w.heap.size w w' := by
  unfold maxLen at hl
  have hb := h.lt h0
  by_cases hbig : (1048576 : Int) < len
  · go_enter Try.func18, Try.ntmps18
    go_wp2
    go_ret
    exact ⟨isBool _, (Below.refl _ _).alloc (Nat.le_refl _) _⟩
  · have hd : decide ((1048576 : Int) < len) = false := by simpa using hbig
    have HB : Hid (Below w.heap.size w (w.alloc (.cells A 25))) := (Below.refl _ _).alloc (Nat.le_refl _) _
    have h' : ItemsAt (w.alloc (.cells A 25)) b off len K V N := h.below HB.out hb
    go_enter Try.func18, Try.ntmps18
    go_wp2
    generalize w.alloc (.cells A 25) = w1 at *
    go_loop [5, 6] (fun z i => ∃ (k : Nat) (m : Int), k ≤ len ∧ i = .int .i64 k ∧ z = .int .i64 m) (fun _ i => len - (intOf i).toNat)
    case atStart => exact ⟨0, _, by omega, rfl, rfl⟩
    case round =>
      obtain ⟨k, m, hk, rfl, rfl⟩ := hrel
      by_cases hlt : k < len
      · have hv := item_val (h'.key k hlt) (h'.lie k hlt)
        clear h h'
        generalize V k = v at *
        go_wp2
        · go_ret
          exact ⟨isBool _, HB.out⟩
        · go_ret
          exact ⟨isBool _, HB.out⟩
        · go_ret
          exact ⟨isBool _, HB.out⟩
        · go_round
          case rel => exact ⟨k + 1, _, by omega, by go_num, rfl⟩
          case measure => simp [intOf]; omega
      · clear h h'
        go_wp2
        go_ret
        exact ⟨isBool _, HB.out⟩

set_option maxRecDepth 100000 in
set_option maxHeartbeats 400000 in
theorem zzBytes7_zero (a : Option Addr) (cap : Nat) (A : Array Value) (w : World) :
    Calls Try.prog 18 #[.slice a 0 cap, .agg A] w fun e w' => IsBool e ∧ Below w.heap.size w w' := by
  go_enter Try.func18, Try.ntmps18
  go_wp2
  refine wp_loop_once ?_
  go_wp2
  go_ret
  exact ⟨isBool _, (Below.refl _ _).alloc (Nat.le_refl _) _⟩

/-- 'make' of rows, at a length of Go's own -/
theorem mk_rows (t e n bytes : Nat) (ht : Try.prog.underlying t = some (.slice e)) (hs : (Try.prog.info? e).map (·.size) = some n) (hby : (Try.prog.info? e).map (·.bytes) = some bytes) (hz : ((Try.prog.info? e).bind (·.zero)).isSome = true)
    (len : Nat) (h : bytes * len ≤ 281474976710656) (hl : len ≤ maxLen) :
    ∃ C : Array Value, C.size = len * n ∧ ∀ W : World, (Instr.makeSlice t (.int .i64 len) (.int .i64 len)).run Try.prog W = .ok (.slice (some ⟨W.heap.size, 0, none⟩) len len) (W.alloc (.cells C e)) := by
  unfold maxLen at hl
  cases hi : Try.prog.info? e with
  | none => rw [hi] at hs; cases hs
  | some i =>
    rw [hi] at hs hby hz
    simp at hs hby hz
    obtain ⟨z, hz⟩ := Option.isSome_iff_exists.1 hz
    refine ⟨madeCells z.cells (len * n), by simp [size_madeCells], fun W => ?_⟩
    have := run_make (P := Try.prog) W t e i z ht hi hz .i64 .i64 len len (by omega) (by omega) (by rw [hby]; omega) (by omega)
    simpa [hs] using this

theorem eql_nil36 (w : World) (a : Option Addr) (n c : Nat) : (binOp .eql 36 (.slice a n c) (.slice none 0 0)).run Try.prog w = .ok (.bool a.isNone) w :=
  Lib.run_eql_slice_nil w 36 103 a n c 0 0 Try.underlying36

attribute [local go_sem ↓] ex_load25 ex_build105 ex_store105 ex_load105 ex_neq105
attribute [local go_sem] run_ld25 run_bld105 run_ld105 run_neq105

set_option maxHeartbeats 400000 in
theorem toItems_nil (w : World) : Calls Try.prog 20 #[.slice none 0 0] w fun e w' => e = .returned (.slice none 0 0) ∧ w' = w := by
  have hn := eql_nil36
  go_enter Try.func20, Try.ntmps20
  go_wp2
  go_ret
  exact ⟨rfl, rfl⟩

set_option maxRecDepth 100000 in
set_option maxHeartbeats 400000 in
theorem toItems_zero (a : Addr) (cap : Nat) (w : World) : Calls Try.prog 20 #[.slice (some a) 0 cap] w fun e w' => e = .returned (.slice (some ⟨w.heap.size, 0, none⟩) 0 0) ∧ Below w.heap.size w w' ∧ w.heap.size < w'.heap.size := by
  obtain ⟨C, hC, hmk⟩ := mk_rows 39 105 22 48 Try.underlying39 size105 (by kernel_rfl) (by kernel_rfl) 0 (by omega) (by unfold maxLen; omega)
  have hmk0 : ∀ W : World, (Instr.makeSlice 39 (.int .i64 0) (.int .i64 0)).run Try.prog W = .ok (.slice (some ⟨W.heap.size, 0, none⟩) 0 0) (W.alloc (.cells C 105)) := hmk
  clear hmk
  have hn := eql_nil36
  go_enter Try.func20, Try.ntmps20
  go_wp2
  refine wp_loop_once ?_
  go_wp2
  go_ret
  exact ⟨rfl, (Below.refl _ _).alloc (Nat.le_refl _) _, by simp⟩

set_option maxRecDepth 100000 in
set_option maxHeartbeats 1000000 in
theorem toItems_any (b off len cap : Nat) (K : Nat → List Int) (V : Nat → ByteArray) (N : Nat → Int) (hl : len ≤ 32768) (h0 : 0 < len) (w : World) (h : ItemsAt w b off len K V N) :
    Calls Try.prog 20 #[.slice (some ⟨b, off, none⟩) len cap] w fun e w' => e = .returned (.slice (some ⟨w.heap.size, 0, none⟩) len len) ∧ Below w.heap.size w w' ∧ w.heap.size < w'.heap.size ∧ ItemsAt w' w.heap.size 0 len K V N := by
  have hb := h.lt h0
  obtain ⟨C, hC, hmk⟩ := mk_rows 39 105 22 48 Try.underlying39 size105 (by kernel_rfl) (by kernel_rfl) len (by omega) (by unfold maxLen; omega)
  have hn := eql_nil36
  go_enter Try.func20, Try.ntmps20
  go_wp2
  go_loopw [4] (fun k wr => ∃ m : Nat, m ≤ len ∧ k = .int .i64 m ∧ Below w.heap.size w wr ∧ Hid (wr.there w.heap.size 0 (len * 22)) ∧ Hid (∀ q, q < m → rd wr w.heap.size (0 + q * 22) 22 = some (itemC (K q) (V q) (N q)))) (fun k _ => len - (intOf k).toNat)
  case atStart => exact ⟨0, by omega, rfl, (Below.refl _ _).alloc (Nat.le_refl _) _, there_new w C 105 _ (by omega), (fun q hq => by omega)⟩
  case round =>
    obtain ⟨m, hm, rfl, hW, Ht, Hq⟩ := hrel
    obtain ⟨wr, hwr, hW⟩ : ∃ wr, wr = _ ∧ Below w.heap.size w wr := ⟨_, rfl, hW⟩
    subst hwr
    by_cases hlt : m < len
    · have hk20 := h.key m hlt
      have hbr : b < wr.heap.size := by have := hW.size; omega
      have hI : ∀ z : Later wr, rd z.to b (off + m * 22) 22 = some (itemC (K m) (V m) (N m)) := fun z => (z.rd _ _ _ hbr).trans ((rd_below hW hb _ _).trans (h.lie m hlt))
      have q1 : ∀ z : Later wr, rd z.to b (off + m * 22) 20 = some (cs8 (K m)) := fun z => item_key hk20 (hI z)
      have q2 : ∀ z : Later wr, z.to.cell? ⟨b, off + m * 22 + 20, none⟩ = some (.string (V m)) := fun z => item_val hk20 (hI z)
      have q3 : ∀ z : Later wr, z.to.cell? ⟨b, off + m * 22 + 21, none⟩ = some (.int .u64 (N m)) := fun z => item_ver hk20 (hI z)
      have hg : w.heap.size < wr.heap.size := there_lt Ht.out (by omega)
      have hlen := itemC_length (K m) (V m) (N m) hk20
      have hst : ∀ z : Later wr, (stA 105 (.pointer (some ⟨w.heap.size, m * 22, none⟩)) (.agg (itemC (K m) (V m) (N m)).toArray)).run Try.prog z.to = .ok .skip (z.to.setCells w.heap.size (m * 22) (itemC (K m) (V m) (N m))) := fun z =>
        run_stA_mid (n := 22) (there_sub (there_below z.bel hg Ht.out) _ _ (by omega) (by omega)) hlen (one_itemC _ _ _) size105
      have hne := later_ne wr
      have HK : Hid (∀ z : Later wr, ∀ q, q < m + 1 → rd (z.to.setCells w.heap.size (m * 22) (itemC (K m) (V m) (N m))) w.heap.size (0 + q * 22) 22 = some (itemC (K q) (V q) (N q))) := fun z q hq => by
        by_cases e : q = m
        · subst e
          rw [Nat.zero_add]
          exact rd_setCells_same (there_sub (there_below z.bel hg Ht.out) (q * 22) 22 (by omega) (by omega)) hlen
        · exact rd_setCells_apart ((z.rd _ _ _ hg).trans (Hq.out q (by omega))) _ _ _ (by rw [hlen]; omega)
      clear h hI hlen
      generalize hkm : K m = xk at *
      generalize hvm : V m = xv at *
      generalize hnm : N m = xn at *
      clear hkm hvm hnm
      go_wp2
      refine wp_region_thenN 19 (by kernel_rfl) (by kernel_rfl) ?_
      simp only [List.take_succ_cons, List.take_zero, List.drop_succ_cons, List.drop_zero]
      repeat (go_big_quiet_step (fail))
      refine wpQuiet_nil ?_
      rintro _ ⟨z, rfl⟩
      go_wp2
      exact ⟨⟨m + 1, by omega, by go_num, bel_setCells (Nat.le_refl _) _ _ _ (hW.trans (z.bel.mono hW.size)), World.there_setCells (there_below z.bel hg Ht.out) _ _ _, HK.out z⟩, by simp [intOf]; omega⟩
    · obtain rfl : m = len := by omega
      have hg : w.heap.size < wr.heap.size := there_lt Ht.out (by omega)
      have hk := h.key
      clear h
      go_wp2
      go_ret
      exact ⟨rfl, hW, hg, ⟨hk, Hq.out⟩⟩

set_option maxRecDepth 100000 in
set_option maxHeartbeats 1000000 in
/-- part of a row of items, held against the row -/
theorem itemsAt_any (g n cap len cap' off : Nat) (K : Nat → List Int) (V : Nat → ByteArray) (N : Nat → Int) (hl : len ≤ maxLen) (hn : off + n ≤ len) (w : World) (h : ItemsAt w g 0 len K V N) :
    Calls Try.prog 31 #[.slice (some ⟨g, off * 22, none⟩) n cap, .slice (some ⟨g, 0, none⟩) len cap', .int .i64 off] w fun e w' => e = .returned (.bool true) ∧ Below w.heap.size w w' := by
  unfold maxLen at hl
  have hd1 : decide ((off : Int) < 0) = false := by rw [decide_eq_false_iff_not]; omega
  have hd2 : decide ((len : Int) < off + n) = false := by rw [decide_eq_false_iff_not]; omega
  go_enter Try.func31, Try.ntmps31
  go_wp2
  go_loopw [7] (fun i wr => ∃ k : Nat, k ≤ n ∧ i = .int .i64 k ∧ Below w.heap.size w wr) (fun i _ => n - (intOf i).toNat)
  case atStart => exact ⟨0, by omega, rfl, Below.refl _ _⟩
  case round =>
    obtain ⟨k, hk, rfl, hW⟩ := hrel
    obtain ⟨wr, hwr, hW⟩ : ∃ wr, wr = _ ∧ Below w.heap.size w wr := ⟨_, rfl, hW⟩
    subst hwr
    by_cases hlt : k < n
    · have hb := h.lt (by omega)
      have hbr : g < wr.heap.size := by have := hW.size; omega
      have hI := h.lie (off + k) (by omega)
      have hk20 := h.key (off + k) (by omega)
      rw [Nat.zero_add] at hI
      have e2 : ∀ z : Later wr, rd z.to g ((off + k) * 22) 22 = some (itemC (K (off + k)) (V (off + k)) (N (off + k))) := fun z => (z.rd _ _ _ hbr).trans ((rd_below hW hb _ _).trans hI)
      have e1 : ∀ z : Later wr, rd z.to g (off * 22 + k * 22) 22 = some (itemC (K (off + k)) (V (off + k)) (N (off + k))) := fun z => by
        have := e2 z
        rwa [Nat.add_mul] at this
      have hne := later_ne wr
      clear h hI
      generalize K (off + k) = xk at *
      generalize V (off + k) = xv at *
      generalize N (off + k) = xn at *
      go_wp2
      refine wp_region_later (by kernel_rfl) (by kernel_rfl) ?_
      repeat (go_big_quiet_step (fail))
      refine wpQuiet_nil ?_
      rintro _ ⟨z, rfl⟩
      go_wp2
      exact ⟨⟨k + 1, by omega, by go_num, hW.trans (z.bel.mono hW.size)⟩, by simp [intOf]; omega⟩
    · clear h
      go_wp2
      go_ret
      exact ⟨rfl, hW⟩
end Go.Proofs.Qxb6612300a
