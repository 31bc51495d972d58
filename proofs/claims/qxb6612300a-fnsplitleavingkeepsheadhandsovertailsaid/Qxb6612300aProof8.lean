/- THE STATEMENT FnSplitLeavingKeepsHeadHandsOverTailSaid. -/
import Derived.Test.Qxb6612300aLaw8b
import Derived.Test.Qxb6612300aOpen4
namespace Go.Proofs.Qxb6612300a
open Go.ChangeShapes Go.WideShapes Go.ChangeAt Go.RowKit
open Go.ChangeMaps (open_string shut_string)
set_option linter.unusedVariables false

section
variable {H : Type} {enc : TypeId × Value → H} {w : World} {base : Nat} {spare : Nat → Bool} {held : Bool}
theorem cells115 : Try.prog.cellsOf 115 = 21 := by kernel_rfl

set_option maxRecDepth 100000 in
theorem trod_peer {fuel : Nat} {cs : List Value} {x : DataW H × List MemPlace} (h : DataW.trod enc Try.prog w base spare held fuel 115 cs = some x) :
    ∃ k v, cs = peerC k v ∧ k.length = 20 := by
  obtain ⟨ds, m, _, _, hl, hn, hi⟩ := DataW.trod_struct Try.underlying115 h
  rw [cells115] at hl
  have hn2 : ds.length = 2 := hn
  have h0 : DataW.trod enc Try.prog w base spare held m 25 ((cs.drop 0).take (Try.prog.cellsOf 25)) = ds[0]? := hi 0 { name := "ID", type := 25, offset := 0, embedded := false, tag := "", pkgPath := "", byteOffset := 0 } rfl
  have h1 : DataW.trod enc Try.prog w base spare held m 9 ((cs.drop 20).take (Try.prog.cellsOf 9)) = ds[1]? := hi 1 { name := "Addr", type := 9, offset := 20, embedded := false, tag := "", pkgPath := "", byteOffset := 24 } rfl
  rw [cells25, List.getElem?_eq_getElem (by omega)] at h0
  rw [cells9, List.getElem?_eq_getElem (by omega)] at h1
  obtain ⟨k, e0, hk, _⟩ := trod_bytes Try.underlying25 cells25 h0
  obtain ⟨v, e1, _, _⟩ := DataW.trod_string Try.underlying9 h1
  refine ⟨k, v, ?_, hk⟩
  rw [List.drop_zero] at e0
  rw [List.take_of_length_le (by simp; omega)] at e1
  rw [peerC, ← e0, ← e1, List.take_append_drop]

set_option maxRecDepth 100000 in
theorem open_peers {t fuel : Nat} {a : Option Addr} {len cap : Nat} {x : DataW H × List MemPlace} (ht : Try.prog.underlying t = some (.slice 115))
    (h : DataW.trod enc Try.prog w 0 (fun _ => true) held fuel t [.slice a len cap] = some x) :
    len ≤ maxLen ∧ (a = none → len = 0 ∧ cap = 0) ∧ SrcP w a len := by
  obtain ⟨hl, hnil, he⟩ := open_elems ht cells115 (by omega) h
  refine ⟨hl, hnil, fun h0 => ?_⟩
  obtain ⟨b, off, ha, hi⟩ := he h0
  obtain ⟨X, hX⟩ := Deep.choose_lt (α := List Int × ByteArray) (n := len) (p := fun i p => p.1.length = 20 ∧ rd w b (off + i * 21) 21 = some (peerC p.1 p.2)) (fun i hlt => by
    obtain ⟨cs, y, m, hr, ht⟩ := hi i hlt
    obtain ⟨k, v, rfl, hk⟩ := trod_peer ht
    exact ⟨(k, v), hk, hr⟩)
  exact ⟨b, off, fun i => (X i).1, fun i => (X i).2, ha, ⟨fun i hlt => (hX i hlt).1, fun i hlt => (hX i hlt).2⟩⟩
end

theorem law8_all (xs ys : List Int) (s t : ByteArray) (a : Option Addr) (len cap : Nat) (a' : Option Addr) (len' cap' : Nat) (hx : xs.length = 20) (hy : ys.length = 20) (hs : s.size ≤ maxLen) (ht : t.size ≤ maxLen) (hl : len ≤ maxLen) (hl' : len' ≤ maxLen)
    (hnil : a = none → len = 0 ∧ cap = 0) (hnil' : a' = none → len' = 0 ∧ cap' = 0) (w : World) (hP : SrcP w a len) (hI : SrcI w a' len') :
    Calls Try.prog 8 #[.agg (cs8 xs).toArray, .string s, .slice a len cap, .agg (cs8 ys).toArray, .string t, .slice a' len' cap'] w fun e w' => e = .returned (.bool true) ∧ Below w.heap.size w w' := by
  by_cases h0 : 0 < len'
  · obtain ⟨b', off', K, V, N, rfl, hJ⟩ := hI h0
    exact law8_many xs ys s t a len cap b' off' len' cap' K V N hx hy hs ht hl hl' h0 hnil w hP hJ
  · obtain rfl : len' = 0 := by omega
    refine law8_zero xs ys s t a a' len cap cap' hx hy hs ht hl hnil w hP (fun W => ?_)
    cases a' with
    | none =>
      obtain ⟨_, rfl⟩ := hnil' rfl
      exact (toItems_nil W).mono fun e w' ⟨he, hb'⟩ => ⟨_, _, he, by rw [hb']; exact Below.refl _ _⟩
    | some a' => exact (toItems_zero a' cap' W).mono fun e w' ⟨he, hb', _⟩ => ⟨_, _, he, hb'⟩

set_option maxRecDepth 100000 in
theorem lifted8 (os : Os) (started : os.Started) (H : Type) (enc : TypeId × Value → H) :
    ReturnsInHanded {} Try.checked os 8 .any (Rows.fnSplitLeavingKeepsHeadHandsOverTailSpec.pre6 enc Try.prog Try.f8 Rows.fnSplitLeavingKeepsHeadHandsOverTailRow.domain false) (Rows.fnSplitLeavingKeepsHeadHandsOverTailSpec.post enc Try.prog Try.f8 false true false false) := by
  refine returnsInHanded_of_change (C := Try.checked) own started (by kernel_rfl) Try.func8
    (ChangeSpec.witness6 (enc := enc) (C := Try.checked) false ⟨#[], #[.agg (cs8 (List.replicate 20 0)).toArray, .string .empty, .slice none 0 0, .agg (cs8 (List.replicate 20 0)).toArray, .string .empty, .slice none 0 0], []⟩ 8 (by kernel_rfl) (by kernel_rfl) (by kernel_rfl) (by kernel_rfl)) ?_
  intro W base args ds gs before hval0 hW hcnd _
  have hval : ∀ (j : Nat) t v, Try.f8.params[j]? = some t → args[j]? = some v → Value.okWide Try.prog W .any base t v := hval0
  have hW' := hW
  obtain ⟨p, q, hA0, hV, rfl, hfz, hnd⟩ := hW
  have hA : DataW.TrodAll enc Try.prog W 0 (fun _ => true) true Try.f8.params.toList args.toList ds p := hA0
  rw [Try.params8] at hA hval
  obtain ⟨v0, vs0, d0, ds0, p0, q0, hargs, rfl, rfl, h0, r0⟩ := trodAll_cons hA
  obtain ⟨v1, vs1, d1, ds1, p1, q1, rfl, rfl, rfl, h1, r1⟩ := trodAll_cons r0
  obtain ⟨v2, vs2, d2, ds2, p2, q2, rfl, rfl, rfl, h2, r2⟩ := trodAll_cons r1
  obtain ⟨v3, vs3, d3, ds3, p3, q3, rfl, rfl, rfl, h3, r3⟩ := trodAll_cons r2
  obtain ⟨v4, vs4, d4, ds4, p4, q4, rfl, rfl, rfl, h4, r4⟩ := trodAll_cons r3
  obtain ⟨v5, vs5, d5, ds5, p5, q5, rfl, rfl, rfl, h5, r5⟩ := trodAll_cons r4
  obtain ⟨rfl, rfl, rfl⟩ := trodAll_nil r5
  obtain rfl : args = #[v0, v1, v2, v3, v4, v5] := by cases args; simp_all
  obtain ⟨rfl, rfl⟩ := trodVars_none hV
  have k0 := h0; have k1 := h1; have k2 := h2; have k3 := h3; have k4 := h4; have k5 := h5
  have lt0 : ∀ x ∈ p0, x.block < W.heap.size := by obtain ⟨m, hm⟩ := k0; exact DataW.trod_lt m _ _ _ hm
  have lt1 : ∀ x ∈ p1, x.block < W.heap.size := by obtain ⟨m, hm⟩ := k1; exact DataW.trod_lt m _ _ _ hm
  have lt2 : ∀ x ∈ p2, x.block < W.heap.size := by obtain ⟨m, hm⟩ := k2; exact DataW.trod_lt m _ _ _ hm
  have lt3 : ∀ x ∈ p3, x.block < W.heap.size := by obtain ⟨m, hm⟩ := k3; exact DataW.trod_lt m _ _ _ hm
  have lt4 : ∀ x ∈ p4, x.block < W.heap.size := by obtain ⟨m, hm⟩ := k4; exact DataW.trod_lt m _ _ _ hm
  have lt5 : ∀ x ∈ p5, x.block < W.heap.size := by obtain ⟨m, hm⟩ := k5; exact DataW.trod_lt m _ _ _ hm
  obtain ⟨xs, rfl, hx, _⟩ := open_bytes Try.underlying25 cells25 (hval 0 25 v0 rfl rfl) h0
  obtain ⟨s, rfl, _, _, hs⟩ := open_string Try.underlying9 (hval 1 9 v1 rfl rfl) h1
  obtain ⟨a, len, cap, rfl⟩ := okWide_slice Try.underlying56 (hval 2 56 v2 rfl rfl)
  obtain ⟨ys, rfl, hy, _⟩ := open_bytes Try.underlying25 cells25 (hval 3 25 v3 rfl rfl) h3
  obtain ⟨t, rfl, _, _, ht⟩ := open_string Try.underlying9 (hval 4 9 v4 rfl rfl) h4
  obtain ⟨a', len', cap', rfl⟩ := okWide_slice Try.underlying36 (hval 5 36 v5 rfl rfl)
  obtain ⟨fuel2, hf2⟩ := h2
  obtain ⟨hl, hnil, hP⟩ := open_peers Try.underlying56 hf2
  obtain ⟨fuel5, hf5⟩ := h5
  obtain ⟨hl', hnil', hI⟩ := open_items Try.underlying36 hf5
  clear hA0 hval0
  refine (law8_all xs ys s t a len cap a' len' cap' hx hy hs ht hl hl' hnil hnil' W hP hI).mono fun e W' ⟨he, bel⟩ => ?_
  subst he
  exact ⟨_, rfl, _, _, _, [], _, [], hW', trodAll_mk1 (shut_bool Try.underlying4 _),
    (trodAll_cons_mk (Below.trod laidOut (by kernel_rfl) (of_decide_eq_true (by kernel_rfl)) k0 bel lt0) (trodAll_cons_mk (Below.trod laidOut (by kernel_rfl) (of_decide_eq_true (by kernel_rfl)) k1 bel lt1) (trodAll_cons_mk (Below.trod laidOut (by kernel_rfl) (of_decide_eq_true (by kernel_rfl)) k2 bel lt2) (trodAll_cons_mk (Below.trod laidOut (by kernel_rfl) (of_decide_eq_true (by kernel_rfl)) k3 bel lt3) (trodAll_cons_mk (Below.trod laidOut (by kernel_rfl) (of_decide_eq_true (by kernel_rfl)) k4 bel lt4) (trodAll_cons_mk (Below.trod laidOut (by kernel_rfl) (of_decide_eq_true (by kernel_rfl)) k5 bel lt5) trodAll_mk0)))))), rfl, bel.frame _, fun h => by cases h⟩

theorem over8 : Rows.fnSplitLeavingKeepsHeadHandsOverTailRow.holds Try.pinned (OpenSpec.ofChange Rows.fnSplitLeavingKeepsHeadHandsOverTailSpec) :=
  OpenClaim.holds_of_wide 8 Try.f8 rfl rfl rfl rfl rfl rfl rfl ⟨rfl, rfl, rfl, rfl, rfl⟩ rfl rfl rfl rfl rfl (by kernel_rfl) Try.func8 (by kernel_rfl)
    (of_decide_eq_true (by kernel_rfl)) (by unfold Func.isWrapper; first | (rw [if_pos (by decide +kernel)]; kernel_rfl) | (rw [if_neg (by decide +kernel)]; exact ⟨rfl, rfl⟩))
    (fun os started H enc _ => lifted8 os started H enc)

/-- THE STATEMENT -/
theorem splitLeaving_proved : Rows.FnSplitLeavingKeepsHeadHandsOverTailSaid := over8
#print axioms splitLeaving_proved
end Go.Proofs.Qxb6612300a
