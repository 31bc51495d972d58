/- Peers: leavingBytes (27), zzBytes (26), toPeers (28), peersSame (30). -/
import Derived.Test.Qxb6612300aItems2
namespace Go.Proofs.Qxb6612300a
open Go.RowKit
set_option linter.unusedVariables false

/-- the peers that lie in a slice -/
structure PeersAt (w : World) (b off len : Nat) (I : Nat → List Int) (A : Nat → ByteArray) : Prop where
  id : ∀ i, i < len → (I i).length = 20
  lie : ∀ i, i < len → rd w b (off + i * 21) 21 = some (peerC (I i) (A i))
theorem PeersAt.below {w w' : World} {b off len : Nat} {I : Nat → List Int} {A : Nat → ByteArray} (h : PeersAt w b off len I A) {B : Nat} (hb : Below B w w') (hlt : b < B) : PeersAt w' b off len I A :=
  ⟨h.id, fun i hi => (rd_below hb hlt _ _).trans (h.lie i hi)⟩
theorem PeersAt.lt {w : World} {b off len : Nat} {I : Nat → List Int} {A : Nat → ByteArray} (h : PeersAt w b off len I A) (h0 : 0 < len) : b < w.heap.size := rd_lt (h.lie 0 h0) (by omega)
theorem peer_addr {w : World} {b o : Nat} {xs : List Int} {s : ByteArray} (hx : xs.length = 20) (h : rd w b o 21 = some (peerC xs s)) : w.cell? ⟨b, o + 20, none⟩ = some (.string s) := by
  rw [rd_cell h 20 (by omega)]; simp [peerC, cs8, hx]

/-- a slice of peers that came in; a slice of items that came in -/
def SrcP (w : World) (a : Option Addr) (len : Nat) : Prop := 0 < len → ∃ b off, ∃ I : Nat → List Int, ∃ A : Nat → ByteArray, a = some ⟨b, off, none⟩ ∧ PeersAt w b off len I A
def SrcI (w : World) (a : Option Addr) (len : Nat) : Prop := 0 < len → ∃ b off, ∃ K : Nat → List Int, ∃ V : Nat → ByteArray, ∃ N : Nat → Int, a = some ⟨b, off, none⟩ ∧ ItemsAt w b off len K V N
theorem SrcP.below {w w' : World} {a : Option Addr} {len : Nat} (h : SrcP w a len) (hb : Below w.heap.size w w') : SrcP w' a len := fun h0 => by
  obtain ⟨b, off, I, A, ha, hp⟩ := h h0
  exact ⟨b, off, I, A, ha, hp.below hb (hp.lt h0)⟩
theorem SrcI.below {w w' : World} {a : Option Addr} {len : Nat} (h : SrcI w a len) (hb : Below w.heap.size w w') : SrcI w' a len := fun h0 => by
  obtain ⟨b, off, K, V, N, ha, hp⟩ := h h0
  exact ⟨b, off, K, V, N, ha, hp.below hb (hp.lt h0)⟩

theorem itemBytes_src (a : Option Addr) (len cap : Nat) (hl : len ≤ maxLen) (w : World) (h : SrcI w a len) :
    Calls Try.prog 19 #[.slice a len cap] w fun e w' => IsInt e ∧ w' = w := by
  by_cases h0 : 0 < len
  · obtain ⟨b, off, K, V, N, rfl, hI⟩ := h h0
    exact itemBytes_any b off len cap K V N hl w hI
  · obtain rfl : len = 0 := by omega
    exact itemBytes_zero a cap w

set_option maxRecDepth 100000 in
set_option maxHeartbeats 1000000 in
theorem leavingBytes_any (s t : ByteArray) (a a' : Option Addr) (len cap len' cap' : Nat) (hl : len ≤ maxLen) (hl' : len' ≤ maxLen) (w : World) (h : SrcP w a len) (h' : SrcI w a' len') :
    Calls Try.prog 27 #[.string s, .slice a len cap, .string t, .slice a' len' cap'] w fun e w' => IsInt e ∧ w' = w := by
  have H19 : Hid (Calls Try.prog 19 #[.slice a' len' cap'] w fun e w' => IsInt e ∧ w' = w) := itemBytes_src a' len' cap' hl' w h'
  have HP : Hid (SrcP w a len) := h
  clear h h' hl'
  unfold maxLen at hl
  go_enter Try.func27, Try.ntmps27
  go_wp2
  go_loop [9, 10] (fun z i => ∃ (k : Nat) (m : Int), k ≤ len ∧ i = .int .i64 k ∧ z = .int .i64 m) (fun _ i => len - (intOf i).toNat)
  case atStart => exact ⟨0, _, by omega, rfl, rfl⟩
  case round =>
    obtain ⟨k, m, hk, rfl, rfl⟩ := hrel
    by_cases hlt : k < len
    · obtain ⟨b, off, I, A, rfl, hp⟩ := HP.out (by omega)
      have hv := peer_addr (hp.id k hlt) (hp.lie k hlt)
      clear hp
      generalize A k = v at *
      go_wp2
      · go_ret
        first | exact ⟨isInt _, rfl⟩ | exact isInt _
      · go_round
        case rel => exact ⟨k + 1, _, by omega, by go_num, rfl⟩
        case measure => simp [intOf]; omega
    · by_cases hbig : (1048576 : Int) < m
      · go_wp2
        go_ret
        first | exact ⟨isInt _, rfl⟩ | exact isInt _
      · go_wp2_with (fail)
        refine H19.out.mono ?_
        rintro e w1 ⟨⟨n, rfl⟩, rfl⟩
        go_wp2
        go_ret
        first | exact ⟨isInt _, rfl⟩ | exact isInt _

set_option maxRecDepth 100000 in
set_option maxHeartbeats 2000000 in
theorem zzBytes8_any (X Y : Array Value) (s t : ByteArray) (a a' : Option Addr) (len cap len' cap' : Nat) (hl : len ≤ maxLen) (hl' : len' ≤ maxLen) (hs : s.size ≤ maxLen) (ht : t.size ≤ maxLen) (w : World) (h : SrcP w a len) (h' : SrcI w a' len') :
    Calls Try.prog 26 #[.agg X, .string s, .slice a len cap, .agg Y, .string t, .slice a' len' cap'] w fun e w' => IsBool e ∧ Below w.heap.size w w' := by
  have HB : Hid (Below w.heap.size w ((w.alloc (.cells X 25)).alloc (.cells Y 25))) := ((Below.refl _ _).alloc (Nat.le_refl _) _).alloc (by simp) _
  have HP : Hid (SrcP ((w.alloc (.cells X 25)).alloc (.cells Y 25)) a len) := h.below HB.out
  have HI : Hid (SrcI ((w.alloc (.cells X 25)).alloc (.cells Y 25)) a' len') := h'.below HB.out
  clear h h'
  unfold maxLen at hl hl' hs ht
  go_enter Try.func26, Try.ntmps26
  by_cases b1 : (1048576 : Int) < s.size
  · go_wp2
    go_ret
    exact ⟨isBool _, HB.out⟩
  by_cases b2 : (1048576 : Int) < len
  · go_wp2
    go_ret
    exact ⟨isBool _, HB.out⟩
  by_cases b3 : (1048576 : Int) < s.size + len
  · go_wp2
    go_ret
    exact ⟨isBool _, HB.out⟩
  have d1 : decide ((1048576 : Int) < s.size) = false := by simpa using b1
  have d2 : decide ((1048576 : Int) < len) = false := by simpa using b2
  have d3 : decide ((1048576 : Int) < s.size + len) = false := by simpa using b3
  go_wp2
  generalize (w.alloc (.cells X 25)).alloc (.cells Y 25) = w1 at *
  go_loop [13, 14] (fun z i => ∃ (k : Nat) (m : Int), k ≤ len ∧ i = .int .i64 k ∧ z = .int .i64 m) (fun _ i => len - (intOf i).toNat)
  case atStart => exact ⟨0, _, by omega, rfl, rfl⟩
  case round =>
    obtain ⟨k, m, hk, rfl, rfl⟩ := hrel
    by_cases hlt : k < len
    · obtain ⟨b, off, I, A, rfl, hp⟩ := HP.out (by omega)
      have hv := peer_addr (hp.id k hlt) (hp.lie k hlt)
      clear hp
      generalize A k = v at *
      go_wp2
      · go_ret
        exact ⟨isBool _, HB.out⟩
      · go_ret
        exact ⟨isBool _, HB.out⟩
      · go_ret
        exact ⟨isBool _, HB.out⟩
      · go_round
        case rel => exact ⟨k + 1, _, by omega, by go_num, rfl⟩
        case measure => simp [intOf]; omega
    · by_cases b4 : (1048576 : Int) < t.size
      · go_wp2
        go_ret
        exact ⟨isBool _, HB.out⟩
      by_cases b6 : (1048576 : Int) < len'
      · go_wp2
        all_goals
          go_ret
          exact ⟨isBool _, HB.out⟩
      have d4 : decide ((1048576 : Int) < t.size) = false := by simpa using b4
      have d6 : decide ((1048576 : Int) < len') = false := by simpa using b6
      go_wp2
      · go_ret
        exact ⟨isBool _, HB.out⟩
      · go_ret
        exact ⟨isBool _, HB.out⟩
      · go_loop [13, 15] (fun z i => ∃ (q : Nat) (m : Int), q ≤ len' ∧ i = .int .i64 q ∧ z = .int .i64 m) (fun _ i => len' - (intOf i).toNat)
        case atStart => exact ⟨0, _, by omega, rfl, rfl⟩
        case round =>
          obtain ⟨q, m2, hq, rfl, rfl⟩ := hrel
          by_cases hlt2 : q < len'
          · obtain ⟨b', off', K, V, N, rfl, hi⟩ := HI.out (by omega)
            have hv := item_val (hi.key q hlt2) (hi.lie q hlt2)
            clear hi
            generalize V q = v at *
            go_wp2
            · go_ret
              exact ⟨isBool _, HB.out⟩
            · go_ret
              exact ⟨isBool _, HB.out⟩
            · go_ret
              exact ⟨isBool _, HB.out⟩
            · go_round
              case rel => exact ⟨q + 1, _, by omega, by go_num, rfl⟩
              case measure => simp [intOf]; omega
          · go_wp2
            go_ret
            exact ⟨isBool _, HB.out⟩
end Go.Proofs.Qxb6612300a
