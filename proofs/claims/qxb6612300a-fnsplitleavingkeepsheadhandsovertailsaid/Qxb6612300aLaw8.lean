/- The walk of the law FnSplitLeavingKeepsHeadHandsOverTail (8). -/
import Derived.Test.Qxb6612300aLeav2
import Derived.Test.Qxb6612300aPeers2
namespace Go.Proofs.Qxb6612300a
open Go.RowKit
set_option linter.unusedVariables false

/-- a fresh variable stored into whole, one block laid behind it -/
theorem run_stA_under {P : Program} {w : World} {Z : Array Value} {cs : List Value} {t b n : Nat} (o : Obj) (hb : b = w.heap.size) (hz : Z.size = n) (hl : cs.length = n) (h1 : ∀ v ∈ cs, v.oneCell' = true) (hi : (P.info? t).map (·.size) = some n) :
    (stA t (.pointer (some ⟨b, 0, none⟩)) (.agg cs.toArray)).run P ((w.alloc (.cells Z t)).alloc o) = .ok .skip ((w.alloc (.cells cs.toArray t)).alloc o) := by
  subst hb
  have hs := run_storeVar_row (P := P) ((w.alloc (.cells Z t)).alloc o) w.heap.size t t Z cs.toArray (heap_alloc2_old w _ _) (by rw [hi]; simp [hl]) (by simp; omega) (all_oneCell_toArray h1)
  have e : ((w.alloc (.cells Z t)).alloc o).setRow w.heap.size cs.toArray = (w.alloc (.cells cs.toArray t)).alloc o := by
    unfold World.setRow World.alloc
    congr 1
    apply Array.ext_getElem?
    intro k
    simp only [Array.getElem?_modify, Array.getElem?_push, Array.size_push]
    by_cases hk : k = w.heap.size
    · subst hk; simp
    · have hk' : ¬ w.heap.size = k := fun e => hk e.symm
      simp [hk, hk']
  rw [e] at hs
  simp only [stA, Instr.storeAt, Instr.sureAddr, Sem.run_bind, Sem.run_pure, Result.andThen_ok, hs]
theorem run_st62u (w : World) (o : Obj) (S T : Value) (xs ys : List Int) (s t : ByteArray) (us : List Int) (s' : ByteArray) (a : Option Addr) (n c : Nat) (vs : List Int) (t' : ByteArray) (a' : Option Addr) (n' c' : Nat) (b : Nat) (hb : b = w.heap.size) (hx : xs.length = 20) (hy : ys.length = 20) (hu : us.length = 20) (hv : vs.length = 20) :
    (stA 62 (.pointer (some ⟨b, 0, none⟩)) (.agg (leavC us s' (.slice a n c) vs t' (.slice a' n' c')).toArray)).run Try.prog ((w.alloc (.cells (leavC xs s S ys t T).toArray 62)).alloc o) = .ok .skip ((w.alloc (.cells (leavC us s' (.slice a n c) vs t' (.slice a' n' c')).toArray 62)).alloc o) :=
  run_stA_under (n := 44) o hb (by simp [leavC_length _ _ _ _ _ _ hx hy]) (leavC_length _ _ _ _ _ _ hu hv) (one_leavC _ _ _ _ _ _ rfl rfl) size62
theorem leav_rd0 (w : World) (xs : List Int) (s : ByteArray) (S : Value) (ys : List Int) (t : ByteArray) (T : Value) (b : Nat) (hb : b = w.heap.size) (hx : xs.length = 20) (hy : ys.length = 20) : rd (w.alloc (.cells (leavC xs s S ys t T).toArray 62)) b 0 21 = some (peerC xs s) := by
  subst hb; exact (leavAt_new w xs s S ys t T hx hy).head
theorem leav_rd22 (w : World) (xs : List Int) (s : ByteArray) (S : Value) (ys : List Int) (t : ByteArray) (T : Value) (b : Nat) (hb : b = w.heap.size) (hx : xs.length = 20) (hy : ys.length = 20) : rd (w.alloc (.cells (leavC xs s S ys t T).toArray 62)) b 22 21 = some (peerC ys t) := by
  subst hb; exact (leavAt_new w xs s S ys t T hx hy).pred
theorem leav_succs (xs : List Int) (s : ByteArray) (S : Value) (ys : List Int) (t : ByteArray) (T : Value) (hx : xs.length = 20) : (leavC xs s S ys t T)[21]? = some S := by
  have lx := peerC_length xs s hx
  rw [leavC, List.getElem?_append_right (by omega), lx]; rfl
theorem leav_succs_at (xs : List Int) (s : ByteArray) (S : Value) (ys : List Int) (t : ByteArray) (T : Value) (h : 21 < (leavC xs s S ys t T).length) (hx : xs.length = 20) : (leavC xs s S ys t T)[21]'h = S := by
  have := leav_succs xs s S ys t T hx
  rw [List.getElem?_eq_getElem h] at this
  exact Option.some.inj this

attribute [local go_sem ↓] ex_load25 ex_load31 ex_build31 ex_alloc31 ex_store31 ex_neq31 ex_build62 ex_alloc62 ex_store62 ex_load62
attribute [local go_sem] run_ld25 run_ld31 run_bld31 run_al31 run_st31 run_neq31_same run_ld62 run_bld62 run_al62 run_st62 run_st62u leav_rd0 leav_rd22 leav_succs leav_succs_at leav_items leav_items_at leavC_length peerC_length z20_length rd_alloc_past rd_alloc_row cs8_length

/-- what toItems hands back where there is none -/
def NoneTo (W : World) (e : Ending) (w' : World) : Prop := ∃ a c, e = .returned (.slice a 0 c) ∧ Below W.heap.size W w'

/-- a slice of peers of the call's own is a slice -/
theorem OwnP.slice {w : World} {v : Value} {n : Nat} (h : OwnP w v n) : ∃ a m c, v = .slice a m c := by
  rcases h with ⟨rfl, _⟩ | ⟨g, rfl, _⟩
  · exact ⟨_, _, _, rfl⟩
  · exact ⟨_, _, _, rfl⟩

set_option maxRecDepth 100000 in
set_option maxHeartbeats 4000000 in
theorem law8_zero (xs ys : List Int) (s t : ByteArray) (a a' : Option Addr) (len cap cap' : Nat) (hx : xs.length = 20) (hy : ys.length = 20) (hs : s.size ≤ maxLen) (ht : t.size ≤ maxLen) (hl : len ≤ maxLen) (hnil : a = none → len = 0 ∧ cap = 0) (w : World) (hP : SrcP w a len)
    (H20 : ∀ W, Calls Try.prog 20 #[.slice a' 0 cap'] W fun e w' => NoneTo W e w') :
    Calls Try.prog 8 #[.agg (cs8 xs).toArray, .string s, .slice a len cap, .agg (cs8 ys).toArray, .string t, .slice a' 0 cap'] w fun e w' => e = .returned (.bool true) ∧ Below w.heap.size w w' := by
  have HP : Hid (SrcP w a len) := hP
  have G20 : Hid (∀ W, Calls Try.prog 20 #[.slice a' 0 cap'] W fun e w' => NoneTo W e w') := H20
  have HN : Hid (a = none → len = 0 ∧ cap = 0) := hnil
  have hI : ∀ W, SrcI W a' 0 := fun W h0 => absurd h0 (by omega)
  have HI : Hid (∀ W, SrcI W a' 0) := hI
  have ML : Hid (len ≤ maxLen) := hl
  have MS : Hid (s.size ≤ maxLen) := hs
  have MT : Hid (t.size ≤ maxLen) := ht
  clear hP H20 hnil hI
  unfold maxLen at hl hs ht
  go_enter Try.func8, Try.ntmps8
  go_wp2_with (fail)
  have hB0 : Below w.heap.size w ((w.alloc (.cells (cs8 xs).toArray 25)).alloc (.cells (cs8 ys).toArray 25)) := ((Below.refl _ _).alloc (Nat.le_refl _) _).alloc (by simp) _
  refine (zzBytes8_any _ _ s t a a' len cap 0 cap' ML.out (by unfold maxLen; omega) MS.out MT.out _ (HP.out.below hB0) (HI.out _)).mono ?_
  rintro e w1 ⟨⟨b0, rfl⟩, hb1⟩
  have hB1 := hB0.trans (hb1.mono hB0.size)
  have z0 : w.heap.size < w1.heap.size := by have := hb1.size; simp at this; omega
  have z1 : w.heap.size + 1 < w1.heap.size := by have := hb1.size; simp at this; omega
  have x1 : rd w1 w.heap.size 0 20 = some (cs8 xs) := by
    rw [rd_below hb1 (by simp; omega), rd_alloc_past _ _ _ _ _ (by simp), rd_alloc_row _ _ _ _ _ rfl (by simp [cs8, hx])]
  have y1 : rd w1 (w.heap.size + 1) 0 20 = some (cs8 ys) := by
    rw [rd_below hb1 (by simp), rd_alloc_row _ _ _ _ _ (by simp) (by simp [cs8, hy])]
  clear hb1 hB0
  cases b0
  · go_wp2
    go_ret
    exact ⟨rfl, hB1⟩
  by_cases b1 : (65536 : Int) < s.size
  · go_wp2
    go_ret
    exact ⟨rfl, hB1⟩
  by_cases b2 : (65536 : Int) < t.size
  · go_wp2
    go_ret
    exact ⟨rfl, hB1⟩
  by_cases b3 : (32768 : Int) < len
  · go_wp2
    go_ret
    exact ⟨rfl, hB1⟩
  have BL : Hid (len ≤ 32768) := by show len ≤ 32768; omega
  go_wp2_with (fail)
  refine (leavingBytes_any s t a a' len cap 0 cap' ML.out (by unfold maxLen; omega) _ (HP.out.below hB1) (HI.out _)).mono ?_
  rintro e w1' ⟨⟨m, rfl⟩, rfl⟩
  by_cases b4 : (1048576 : Int) < m
  · go_wp2
    go_ret
    exact ⟨rfl, hB1⟩
  have z1' : w.heap.size + 1 < w1'.heap.size + 1 := by omega
  go_wp2_with (fail)
  have hB2 : Below w.heap.size w ((w1'.alloc (.cells (peerC xs s).toArray 31)).alloc (.cells (peerC ys t).toArray 31)) := (hB1.alloc (by omega) _).alloc (by simp; omega) _
  refine (toPeers_src a len cap BL.out HN.out _ (HP.out.below hB2)).mono ?_
  rintro e w3 ⟨v, rfl, hv, hb3⟩
  obtain ⟨av, nv, cv, rfl⟩ := hv.slice
  have hB3 := hB2.trans (hb3.mono hB2.size)
  have z3 : w1'.heap.size + 1 < w3.heap.size := by have := hb3.size; simp at this; omega
  have f3 : rd w3 w1'.heap.size 0 21 = some (peerC xs s) := by
    rw [rd_below hb3 (by simp; omega), rd_alloc_past _ _ _ _ _ (by simp), rd_alloc_row _ _ _ _ _ rfl (peerC_length _ _ hx)]
  have p3 : rd w3 (w1'.heap.size + 1) 0 21 = some (peerC ys t) := by
    rw [rd_below hb3 (by simp), rd_alloc_row _ _ _ _ _ (by simp) (peerC_length _ _ hy)]
  clear hb3 hv hB2
  go_wp2_with (fail)
  refine (G20.out _).mono ?_
  rintro e w4 ⟨ai, ci, rfl, hb4⟩
  have hB4 := hB3.trans (hb4.mono hB3.size)
  have f4 : rd w4 w1'.heap.size 0 21 = some (peerC xs s) := (rd_below hb4 (by omega) _ _).trans f3
  have p4 : rd w4 (w1'.heap.size + 1) 0 21 = some (peerC ys t) := (rd_below hb4 (by omega) _ _).trans p3
  clear hb4 f3 p3
  go_wp2_with (fail)
  refine (zzLeaving_few xs ys s t av nv cv ai ci hx hy _).mono ?_
  rintro e w5 ⟨rfl, hb5⟩
  have hB5 := hB4.trans (hb5.mono hB4.size)
  clear hb5
  go_wp2
  go_ret
  exact ⟨rfl, (hB5.alloc (by have := hB5.size; omega) _).alloc (by have := hB5.size; simp; omega) _⟩
end Go.Proofs.Qxb6612300a
