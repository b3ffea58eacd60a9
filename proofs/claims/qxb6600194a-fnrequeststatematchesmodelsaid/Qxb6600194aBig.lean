import Derived.Test.Qxb6600194aReq
namespace Go.Proofs.Qxb6600194a.Req
open Go.RowKit Go.Maps

/-- the call gives a bool; where it is c, p holds -/
def Says (c : Bool) (p : Prop) (e : Ending) : Prop := ∃ bb, e = .returned (.bool bb) ∧ (bb = c → p)
theorem says_p {c bb : Bool} {p : Prop} (h : p) : Says c p (.returned (.bool bb)) := ⟨bb, rfl, fun _ => h⟩
theorem says_f {p : Prop} : Says true p (.returned (.bool false)) := ⟨false, rfl, by simp⟩
theorem says_t {p : Prop} : Says false p (.returned (.bool true)) := ⟨true, rfl, by simp⟩

set_option maxHeartbeats 1000000 in
theorem big (w : World) (a : Option Addr) (lt cap : Nat) (a2 : Option Addr) (lr cap2 : Nat) (U : Nat → ByteArray) (V1 : Nat → Value) (ex : ByteArray)
    (hlt : lt ≤ maxLen) (hlr : lr ≤ maxLen) (hex : ex.size ≤ maxLen) (hU : ∀ i, i < lr → (U i).size ≤ maxLen) (hrv : Pairs w a2 lr (fun i => .string (U i)) V1) :
    Calls Try.prog 9 #[.slice a lt cap, .slice a2 lr cap2, .string ex] w fun e w' => Says false (lt ≤ 65536 ∧ lr ≤ 43690 ∧ ex.size ≤ 1048576) e ∧ w' = w := by
  unfold maxLen at hlt hlr hex hU
  by_cases h1 : lt ≤ 65536 ∧ lr ≤ 43690 ∧ ex.size ≤ 1048576 ∧ lt * 16 + lr * 24 + ex.size ≤ 1048576
  · obtain ⟨g1, g2, g3, g4⟩ := h1
    go_enter Try.func9, Try.ntmps9
    go_wp2
    go_loop [7, 8] (fun n i => ∃ k q : Nat, k ≤ lr ∧ i = .int .i64 k ∧ n = .int .i64 q ∧ q ≤ 1048576) (fun _ i => lr - (intOf i).toNat)
    case atStart => exact ⟨0, lt * 16 + lr * 24 + ex.size, Nat.zero_le _, rfl, by go_num, g4⟩
    case round =>
      obtain ⟨k, q, hk, rfl, rfl, hq⟩ := hrel
      by_cases hkl : k < lr
      · rcases hrv with h0 | ⟨b, off, rfl, hb, hc⟩
        · omega
        have hc0 := (hc k hkl).1
        have hu := hU k hkl
        clear hc hU
        by_cases hbig : 1048576 < (U k).size
        · go_wp2
          go_ret
          exact ⟨says_t, rfl⟩
        · by_cases hbig2 : 1048576 < q + (U k).size
          · go_wp2
            go_ret
            exact ⟨says_t, rfl⟩
          · go_wp2
            go_round
            case rel => exact ⟨k + 1, q + (U k).size, by omega, by go_num, by go_num, by omega⟩
            case measure => simp [intOf]; omega
      · go_wp2
        go_ret
        exact ⟨says_p (by first | trivial | exact ⟨g1, g2, g3⟩), rfl⟩
  · go_enter Try.func9, Try.ntmps9
    go_wp2
    all_goals
      go_ret
      exact ⟨says_t, rfl⟩

set_option maxHeartbeats 1000000 in
theorem bytes15 (w : World) (a : Option Addr) (lt cap : Nat) (a2 : Option Addr) (lr cap2 : Nat) (U : Nat → ByteArray) (V1 : Nat → Value) (ex : ByteArray) (ap : Bool)
    (hlt : lt ≤ maxLen) (hlr : lr ≤ maxLen) (hex : ex.size ≤ maxLen) (hU : ∀ i, i < lr → (U i).size ≤ maxLen) (hrv : Pairs w a2 lr (fun i => .string (U i)) V1) :
    Calls Try.prog 15 #[.slice a lt cap, .slice a2 lr cap2, .string ex, .bool ap] w fun e w' => Says true True e ∧ w' = w := by
  unfold maxLen at hlt hlr hU hex
  by_cases h1 : lt ≤ 1048576 ∧ lr ≤ 1048576 ∧ lt + lr ≤ 1048576
  · obtain ⟨g1, g2, g4⟩ := h1
    go_enter Try.func15, Try.ntmps15
    go_wp2
    go_loop [9, 10] (fun n i => ∃ k q : Nat, k ≤ lr ∧ i = .int .i64 k ∧ n = .int .i64 q ∧ q ≤ 1048576) (fun _ i => lr - (intOf i).toNat)
    case atStart => exact ⟨0, lt + lr, Nat.zero_le _, rfl, by go_num, g4⟩
    case round =>
      obtain ⟨k, q, hk, rfl, rfl, hq⟩ := hrel
      by_cases hkl : k < lr
      · rcases hrv with h0 | ⟨b, off, rfl, hb, hc⟩
        · omega
        have hc0 := (hc k hkl).1
        have hu := hU k hkl
        clear hc hU
        by_cases hbig : 1048576 < (U k).size
        · go_wp2
          go_ret
          exact ⟨says_p trivial, rfl⟩
        · by_cases hbig2 : 1048576 < q + (U k).size
          · go_wp2
            go_ret
            exact ⟨says_p trivial, rfl⟩
          · go_wp2
            go_round
            case rel => exact ⟨k + 1, q + (U k).size, by omega, by go_num, by go_num, by omega⟩
            case measure => simp [intOf]; omega
      · go_wp2
        all_goals
          go_ret
          exact ⟨says_p trivial, rfl⟩
  · go_enter Try.func15, Try.ntmps15
    go_wp2
    all_goals
      go_ret
      exact ⟨says_p trivial, rfl⟩

set_option maxHeartbeats 1000000 in
theorem bytes8 (w : World) (a : Option Addr) (lt cap : Nat) (a2 : Option Addr) (lr cap2 : Nat) (U : Nat → ByteArray) (V1 : Nat → Value) 
    (hlt : lt ≤ maxLen) (hlr : lr ≤ maxLen)  (hU : ∀ i, i < lr → (U i).size ≤ maxLen) (hrv : Pairs w a2 lr (fun i => .string (U i)) V1) :
    Calls Try.prog 8 #[.slice a lt cap, .slice a2 lr cap2] w fun e w' => Says true True e ∧ w' = w := by
  unfold maxLen at hlt hlr hU
  by_cases h1 : lt ≤ 1048576 ∧ lr ≤ 1048576 ∧ lt + lr ≤ 1048576
  · obtain ⟨g1, g2, g4⟩ := h1
    go_enter Try.func8, Try.ntmps8
    go_wp2
    go_loop [5, 6] (fun n i => ∃ k q : Nat, k ≤ lr ∧ i = .int .i64 k ∧ n = .int .i64 q ∧ q ≤ 1048576) (fun _ i => lr - (intOf i).toNat)
    case atStart => exact ⟨0, lt + lr, Nat.zero_le _, rfl, by go_num, g4⟩
    case round =>
      obtain ⟨k, q, hk, rfl, rfl, hq⟩ := hrel
      by_cases hkl : k < lr
      · rcases hrv with h0 | ⟨b, off, rfl, hb, hc⟩
        · omega
        have hc0 := (hc k hkl).1
        have hu := hU k hkl
        clear hc hU
        by_cases hbig : 1048576 < (U k).size
        · go_wp2
          go_ret
          exact ⟨says_p trivial, rfl⟩
        · by_cases hbig2 : 1048576 < q + (U k).size
          · go_wp2
            go_ret
            exact ⟨says_p trivial, rfl⟩
          · go_wp2
            go_round
            case rel => exact ⟨k + 1, q + (U k).size, by omega, by go_num, by go_num, by omega⟩
            case measure => simp [intOf]; omega
      · go_wp2
        all_goals
          go_ret
          exact ⟨says_p trivial, rfl⟩
  · go_enter Try.func8, Try.ntmps8
    go_wp2
    all_goals
      go_ret
      exact ⟨says_p trivial, rfl⟩
end Go.Proofs.Qxb6600194a.Req
