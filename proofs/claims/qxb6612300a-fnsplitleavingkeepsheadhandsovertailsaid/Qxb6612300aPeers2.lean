/- The walks of toPeers (28), peersSame (30). -/
import Derived.Test.Qxb6612300aPeers
namespace Go.Proofs.Qxb6612300a
open Go.RowKit
set_option linter.unusedVariables false

theorem eql_nil56 (w : World) (a : Option Addr) (n c : Nat) : (binOp .eql 56 (.slice a n c) (.slice none 0 0)).run Try.prog w = .ok (.bool a.isNone) w :=
  Lib.run_eql_slice_nil w 56 115 a n c 0 0 Try.underlying56
theorem eql_nil59 (w : World) (a : Option Addr) (n c : Nat) : (binOp .eql 59 (.slice a n c) (.slice none 0 0)).run Try.prog w = .ok (.bool a.isNone) w :=
  Lib.run_eql_slice_nil w 59 31 a n c 0 0 Try.underlying59

attribute [local go_sem ↓] ex_load25 ex_load31 ex_build31 ex_store31 ex_neq31
attribute [local go_sem] run_ld25 run_ld31 run_bld31

/-- a slice of peers of the call's own: nil, or all of a block -/
def OwnP (w : World) (v : Value) (n : Nat) : Prop := (v = .slice none 0 0 ∧ n = 0) ∨ ∃ g, v = .slice (some ⟨g, 0, none⟩) n n ∧ g < w.heap.size ∧ ∃ I A, PeersAt w g 0 n I A
theorem OwnP.below {w w' : World} {v : Value} {n : Nat} (h : OwnP w v n) (hb : Below w.heap.size w w') : OwnP w' v n := by
  rcases h with h | ⟨g, hv, hg, I, A, hp⟩
  · exact .inl h
  · exact .inr ⟨g, hv, by have := hb.size; omega, I, A, hp.below hb hg⟩
/-- what toPeers hands back -/
def PeersTo (n : Nat) (W : World) (e : Ending) (w' : World) : Prop := ∃ v, e = .returned v ∧ OwnP w' v n ∧ Below W.heap.size W w'

set_option maxRecDepth 100000 in
set_option maxHeartbeats 400000 in
theorem toPeers_zero (a : Option Addr) (cap : Nat) (hnil : a = none → cap = 0) (w : World) : Calls Try.prog 28 #[.slice a 0 cap] w fun e w' => PeersTo 0 w e w' := by
  obtain ⟨C, hC, hmk⟩ := mk_rows 59 31 21 40 Try.underlying59 size31 (by kernel_rfl) (by kernel_rfl) 0 (by omega) (by unfold maxLen; omega)
  have hmk0 : ∀ W : World, (Instr.makeSlice 59 (.int .i64 0) (.int .i64 0)).run Try.prog W = .ok (.slice (some ⟨W.heap.size, 0, none⟩) 0 0) (W.alloc (.cells C 31)) := hmk
  clear hmk
  have hn := eql_nil56
  cases a with
  | none =>
    obtain rfl := hnil rfl
    clear hnil
    go_enter Try.func28, Try.ntmps28
    go_wp2
    go_ret
    exact ⟨_, rfl, .inl ⟨rfl, rfl⟩, Below.refl _ _⟩
  | some a =>
    clear hnil
    go_enter Try.func28, Try.ntmps28
    go_wp2
    refine wp_loop_once ?_
    go_wp2
    go_ret
    exact ⟨_, rfl, .inr ⟨w.heap.size, rfl, by simp, fun _ => [], fun _ => .empty, ⟨fun i hi => by omega, fun i hi => by omega⟩⟩, (Below.refl _ _).alloc (Nat.le_refl _) _⟩

set_option maxRecDepth 100000 in
set_option maxHeartbeats 1000000 in
theorem toPeers_any (b off len cap : Nat) (I : Nat → List Int) (A : Nat → ByteArray) (hl : len ≤ 32768) (h0 : 0 < len) (w : World) (h : PeersAt w b off len I A) :
    Calls Try.prog 28 #[.slice (some ⟨b, off, none⟩) len cap] w fun e w' => PeersTo len w e w' := by
  have hb := h.lt h0
  obtain ⟨C, hC, hmk⟩ := mk_rows 59 31 21 40 Try.underlying59 size31 (by kernel_rfl) (by kernel_rfl) len (by omega) (by unfold maxLen; omega)
  have hn := eql_nil56
  go_enter Try.func28, Try.ntmps28
  go_wp2
  go_loopw [4] (fun k wr => ∃ m : Nat, m ≤ len ∧ k = .int .i64 m ∧ Below w.heap.size w wr ∧ Hid (wr.there w.heap.size 0 (len * 21)) ∧ Hid (∀ q, q < m → rd wr w.heap.size (0 + q * 21) 21 = some (peerC (I q) (A q)))) (fun k _ => len - (intOf k).toNat)
  case atStart => exact ⟨0, by omega, rfl, (Below.refl _ _).alloc (Nat.le_refl _) _, there_new w C 31 _ (by omega), (fun q hq => by omega)⟩
  case round =>
    obtain ⟨m, hm, rfl, hW, Ht, Hq⟩ := hrel
    obtain ⟨wr, hwr, hW⟩ : ∃ wr, wr = _ ∧ Below w.heap.size w wr := ⟨_, rfl, hW⟩
    subst hwr
    by_cases hlt : m < len
    · have hk20 := h.id m hlt
      have hbr : b < wr.heap.size := by have := hW.size; omega
      have hI : ∀ z : Later wr, rd z.to b (off + m * 21) 21 = some (peerC (I m) (A m)) := fun z => (z.rd _ _ _ hbr).trans ((rd_below hW hb _ _).trans (h.lie m hlt))
      have q1 : ∀ z : Later wr, rd z.to b (off + m * 21) 20 = some (cs8 (I m)) := fun z => rd_id hk20 (hI z)
      have q2 : ∀ z : Later wr, z.to.cell? ⟨b, off + m * 21 + 20, none⟩ = some (.string (A m)) := fun z => peer_addr hk20 (hI z)
      have hg : w.heap.size < wr.heap.size := there_lt Ht.out (by omega)
      have hlen := peerC_length (I m) (A m) hk20
      have hst : ∀ z : Later wr, (stA 31 (.pointer (some ⟨w.heap.size, m * 21, none⟩)) (.agg (peerC (I m) (A m)).toArray)).run Try.prog z.to = .ok .skip (z.to.setCells w.heap.size (m * 21) (peerC (I m) (A m))) := fun z =>
        run_stA_mid (n := 21) (there_sub (there_below z.bel hg Ht.out) _ _ (by omega) (by omega)) hlen (one_peerC _ _) size31
      have hne := later_ne wr
      have HK : Hid (∀ z : Later wr, ∀ q, q < m + 1 → rd (z.to.setCells w.heap.size (m * 21) (peerC (I m) (A m))) w.heap.size (0 + q * 21) 21 = some (peerC (I q) (A q))) := fun z q hq => by
        by_cases e : q = m
        · subst e
          rw [Nat.zero_add]
          exact rd_setCells_same (there_sub (there_below z.bel hg Ht.out) (q * 21) 21 (by omega) (by omega)) hlen
        · exact rd_setCells_apart ((z.rd _ _ _ hg).trans (Hq.out q (by omega))) _ _ _ (by rw [hlen]; omega)
      clear h hI hlen
      generalize hkm : I m = xk at *
      generalize hvm : A m = xv at *
      clear hkm hvm
      go_wp2
      refine wp_region_thenN 14 (by kernel_rfl) (by kernel_rfl) ?_
      simp only [List.take_succ_cons, List.take_zero, List.drop_succ_cons, List.drop_zero]
      repeat (go_big_quiet_step (fail))
      refine wpQuiet_nil ?_
      rintro _ ⟨z, rfl⟩
      go_wp2
      exact ⟨⟨m + 1, by omega, by go_num, bel_setCells (Nat.le_refl _) _ _ _ (hW.trans (z.bel.mono hW.size)), World.there_setCells (there_below z.bel hg Ht.out) _ _ _, HK.out z⟩, by simp [intOf]; omega⟩
    · obtain rfl : m = len := by omega
      have hg : w.heap.size < wr.heap.size := there_lt Ht.out (by omega)
      have hk := h.id
      clear h
      go_wp2
      go_ret
      exact ⟨_, rfl, .inr ⟨w.heap.size, rfl, hg, I, A, ⟨hk, Hq.out⟩⟩, hW⟩

theorem toPeers_src (a : Option Addr) (len cap : Nat) (hl : len ≤ 32768) (hnil : a = none → len = 0 ∧ cap = 0) (w : World) (h : SrcP w a len) : Calls Try.prog 28 #[.slice a len cap] w fun e w' => PeersTo len w e w' := by
  by_cases h0 : 0 < len
  · obtain ⟨b, off, I, A, rfl, hp⟩ := h h0
    exact toPeers_any b off len cap I A hl h0 w hp
  · obtain rfl : len = 0 := by omega
    exact toPeers_zero a cap (fun e => (hnil e).2) w

theorem run_neq31_same (w : World) (x y : Operand) (xs : List Int) (s : ByteArray) (hx : xs.length = 20) :
    (eqA .neq 31 x y (.agg (peerC xs s).toArray) (.agg (peerC xs s).toArray)).run Try.prog w = .ok (.value (.bool false)) w := by
  rw [run_neq31 w x y xs xs s s hx hx]; simp
attribute [local go_sem] run_neq31_same

set_option maxRecDepth 100000 in
set_option maxHeartbeats 1000000 in
theorem peersSame_any (v : Value) (n : Nat) (hl : n ≤ maxLen) (w : World) (h : OwnP w v n) :
    Calls Try.prog 30 #[v, v] w fun e w' => e = .returned (.bool true) ∧ Below w.heap.size w w' := by
  have hn := eql_nil59
  unfold maxLen at hl
  rcases h with ⟨rfl, rfl⟩ | ⟨g, rfl, hg, I, A, h⟩
  · go_enter Try.func30, Try.ntmps30
    go_wp2
    refine wp_loop_once ?_
    go_wp2
    go_ret
    exact ⟨rfl, Below.refl _ _⟩
  · go_enter Try.func30, Try.ntmps30
    go_wp2
    go_loopw [5] (fun i wr => ∃ k : Nat, k ≤ n ∧ i = .int .i64 k ∧ Below w.heap.size w wr) (fun i _ => n - (intOf i).toNat)
    case atStart => exact ⟨0, by omega, rfl, Below.refl _ _⟩
    case round =>
      obtain ⟨k, hk, rfl, hW⟩ := hrel
      obtain ⟨wr, hwr, hW⟩ : ∃ wr, wr = _ ∧ Below w.heap.size w wr := ⟨_, rfl, hW⟩
      subst hwr
      by_cases hlt : k < n
      · have hbr : g < wr.heap.size := by have := hW.size; omega
        have hI := h.lie k hlt
        have hk20 := h.id k hlt
        rw [Nat.zero_add] at hI
        have e1 : ∀ z : Later wr, rd z.to g (k * 21) 21 = some (peerC (I k) (A k)) := fun z => (z.rd _ _ _ hbr).trans ((rd_below hW hg _ _).trans hI)
        have hne := later_ne wr
        clear h hI
        generalize I k = xk at *
        generalize A k = xv at *
        go_wp2
        refine wp_region_later (by kernel_rfl) (by kernel_rfl) ?_
        repeat (go_big_quiet_step (fail))
        refine wpQuiet_nil ?_
        rintro _ ⟨z, rfl⟩
        go_wp2
        exact ⟨⟨k + 1, by omega, by go_num, hW.trans (z.bel.mono hW.size)⟩, by simp [intOf]; omega⟩
      · clear h
        go_wp2
        go_ret
        exact ⟨rfl, hW⟩
end Go.Proofs.Qxb6612300a
