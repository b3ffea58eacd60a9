import Derived.Test.Qxb6601363aScan
namespace Go.Proofs.Qxb6601363a.Num
open Go.RowKit

/-- the call gives a number that p holds of -/
def GivesI (p : Int → Prop) (e : Ending) : Prop := ∃ n : Int, e = .returned (.int .i64 n) ∧ p n
theorem givesI {p : Int → Prop} {x : Int} (h : p x) : GivesI p (.returned (.int .i64 x)) := ⟨x, rfl, h⟩
/-- the call gives a bool, true just where p holds -/
def Tells (p : Prop) (e : Ending) : Prop := ∃ bb, e = .returned (.bool bb) ∧ (bb = true ↔ p)
theorem tells_t {p : Prop} (h : p) : Tells p (.returned (.bool true)) := ⟨true, rfl, by simp [h]⟩
theorem tells_f {p : Prop} (h : ¬ p) : Tells p (.returned (.bool false)) := ⟨false, rfl, by simp [h]⟩

set_option maxHeartbeats 1000000 in
theorem expW (s : ByteArray) (w : World) (hs : s.size ≤ 2000000) :
    Calls Try.prog 13 #[.string s] w fun e w' => GivesI (fun x => ∃ E : Nat, x = E ∧ IsExp s E) e ∧ w' = w := by
  go_enter Try.func13, Try.ntmps13
  go_wp2
  go_loop [3] (fun i => ∃ k : Nat, k ≤ s.size ∧ i = .int .i64 k ∧ ∀ j, j < k → ¬ isE (bAt s j)) (fun i => s.size - (intOf i).toNat)
  case atStart => exact ⟨0, Nat.zero_le _, rfl, by omega⟩
  case round =>
    obtain ⟨k, hk, rfl, hall⟩ := hrel
    have HA : Hid (∀ j, j < k → ¬ isE (bAt s j)) := hall
    clear hall
    by_cases hlt : k < s.size
    · have HK : Hid (bAt s k = (s[k].toNat : Int)) := bAt_in hlt
      by_cases c1 : (s[k].toNat : Int) = 101
      · have b1 : ((s[k].toNat : Int) == 101) = true := beq_iff_eq.2 c1
        have HX : Hid (IsExp s k) := ⟨by omega, HA.out, fun _ => by rw [HK.out]; exact .inl c1⟩
        clear c1
        go_wp2
        go_ret
        exact ⟨givesI ⟨k, rfl, HX.out⟩, rfl⟩
      · have b1 : ((s[k].toNat : Int) == 101) = false := beq_eq_false_iff_ne.2 c1
        by_cases c2 : (s[k].toNat : Int) = 69
        · have b2 : ((s[k].toNat : Int) == 69) = true := beq_iff_eq.2 c2
          have HX : Hid (IsExp s k) := ⟨by omega, HA.out, fun _ => by rw [HK.out]; exact .inr c2⟩
          clear c1 c2
          go_wp2
          go_ret
          exact ⟨givesI ⟨k, rfl, HX.out⟩, rfl⟩
        · have b2 : ((s[k].toNat : Int) == 69) = false := beq_eq_false_iff_ne.2 c2
          have HX : Hid (¬ isE (bAt s k)) := by
            show ¬ isE _
            rw [HK.out]; unfold isE; omega
          clear c1 c2
          go_wp2
          go_round
          case rel => exact ⟨k + 1, by omega, by go_num, fun j hj => by
            by_cases e : j = k
            · subst e; exact HX.out
            · exact HA.out j (by omega)⟩
          case measure => simp [intOf]; omega
    · obtain rfl : k = s.size := by omega
      have HX : Hid (IsExp s s.size) := ⟨by omega, HA.out, fun h => absurd h hlt⟩
      go_wp2
      go_ret
      exact ⟨givesI ⟨_, rfl, HX.out⟩, rfl⟩

theorem digW (b : Int) (w : World) : Calls Try.prog 31 #[.int .u8 b] w fun e w' => Tells (isD b) e ∧ w' = w := by
  by_cases h1 : 48 ≤ b
  · by_cases h2 : b ≤ 57
    · go_enter Try.func31, Try.ntmps31
      go_wp2
      go_ret
      exact ⟨tells_t ⟨h1, h2⟩, rfl⟩
    · go_enter Try.func31, Try.ntmps31
      go_wp2
      go_ret
      exact ⟨tells_f (by unfold isD; omega), rfl⟩
  · go_enter Try.func31, Try.ntmps31
    go_wp2
    go_ret
    exact ⟨tells_f (by unfold isD; omega), rfl⟩

theorem dig_yes (b : Int) (w : World) (h : isD b) : Calls Try.prog 31 #[.int .u8 b] w fun e w' => e = .returned (.bool true) ∧ w' = w :=
  (digW b w).mono fun e w' ⟨⟨bb, he, hb⟩, hw⟩ => ⟨by rw [he, hb.2 h], hw⟩
theorem dig_no (b : Int) (w : World) (h : ¬ isD b) : Calls Try.prog 31 #[.int .u8 b] w fun e w' => e = .returned (.bool false) ∧ w' = w :=
  (digW b w).mono fun e w' ⟨⟨bb, he, hb⟩, hw⟩ => ⟨by rw [he, Bool.eq_false_iff.2 (fun h' => h (hb.1 h'))], hw⟩

set_option maxHeartbeats 1000000 in
theorem onlyW (s : ByteArray) (w : World) (hs : s.size ≤ 2000000) :
    Calls Try.prog 26 #[.string s] w fun e w' => Tells (Chars s s.size) e ∧ w' = w := by
  go_enter Try.func26, Try.ntmps26
  go_wp2
  go_loop [3] (fun i => ∃ k : Nat, k ≤ s.size ∧ i = .int .i64 k ∧ Chars s k) (fun i => s.size - (intOf i).toNat)
  case atStart => exact ⟨0, Nat.zero_le _, rfl, fun j h => by omega⟩
  case round =>
    obtain ⟨k, hk, rfl, hall⟩ := hrel
    have HA : Hid (Chars s k) := hall
    clear hall
    by_cases hlt : k < s.size
    · have HK : Hid (bAt s k = (s[k].toNat : Int)) := bAt_in hlt
      by_cases c1 : isD (s[k].toNat : Int)
      · have HC : Hid (isD (s[k].toNat : Int)) := c1
        clear c1
        go_wp2_with (first | (go_at_call 31; refine (dig_yes _ _ HC.out).mono ?_; rintro e w' ⟨rfl, rfl⟩))
        go_round
        case rel => exact ⟨k + 1, by omega, by go_num, chars_step HA.out (.inl (by rw [HK.out]; exact HC.out))⟩
        case measure => simp [intOf]; omega
      · have HC : Hid (¬ isD (s[k].toNat : Int)) := c1
        clear c1
        by_cases c2 : (s[k].toNat : Int) = 46
        · have b2 : ((s[k].toNat : Int) != 46) = false := bne_eq_false_iff_eq.2 c2
          have H2 : Hid ((s[k].toNat : Int) = 46) := c2
          clear c2
          go_wp2_with (first | (go_at_call 31; refine (dig_no _ _ HC.out).mono ?_; rintro e w' ⟨rfl, rfl⟩))
          go_round
          case rel => exact ⟨k + 1, by omega, by go_num, chars_step HA.out (.inr (by rw [HK.out]; exact H2.out))⟩
          case measure => simp [intOf]; omega
        · have b2 : ((s[k].toNat : Int) != 46) = true := bne_iff_ne.2 c2
          have HX : Hid (¬ Chars s s.size) := fun h => by
            rcases h k hlt with h | h
            · rw [HK.out] at h; exact HC.out h
            · rw [HK.out] at h; exact c2 h
          clear c2
          go_wp2_with (first | (go_at_call 31; refine (dig_no _ _ HC.out).mono ?_; rintro e w' ⟨rfl, rfl⟩))
          go_ret
          exact ⟨tells_f HX.out, rfl⟩
    · obtain rfl : k = s.size := by omega
      go_wp2
      go_ret
      exact ⟨tells_t HA.out, rfl⟩

/-- how many points among the first k bytes -/
def cntP (s : ByteArray) : Nat → Nat
  | 0 => 0
  | k + 1 => cntP s k + if bAt s k = 46 then 1 else 0
def cntD (s : ByteArray) : Nat → Nat
  | 0 => 0
  | k + 1 => cntD s k + if 48 ≤ bAt s k ∧ bAt s k ≤ 57 then 1 else 0
theorem cntP_le (s : ByteArray) : ∀ k, cntP s k ≤ k
  | 0 => by simp [cntP]
  | k + 1 => by have := cntP_le s k; simp only [cntP]; split <;> omega
theorem cntD_le (s : ByteArray) : ∀ k, cntD s k ≤ k
  | 0 => by simp [cntD]
  | k + 1 => by have := cntD_le s k; simp only [cntD]; split <;> omega
theorem cntP_zero (s : ByteArray) : ∀ k, cntP s k = 0 ↔ ∀ j, j < k → ¬ isP (bAt s j)
  | 0 => by simp [cntP]
  | k + 1 => by
    have ih := cntP_zero s k
    simp only [cntP]
    constructor
    · intro h j hj
      by_cases e : j = k
      · subst e; unfold isP; intro h'; rw [if_pos h'] at h; omega
      · exact ih.1 (by omega) j (by omega)
    · intro h
      have h1 := ih.2 (fun j hj => h j (by omega))
      have h2 := h k (by omega)
      unfold isP at h2
      rw [if_neg h2]; omega
theorem cntP_one (s : ByteArray) : ∀ k, cntP s k ≤ 1 ↔ OnePt s k
  | 0 => by simp [cntP, OnePt]
  | k + 1 => by
    have ih := cntP_one s k
    have iz := cntP_zero s k
    simp only [cntP]
    constructor
    · intro h i j hij hj hi
      by_cases e : j = k
      · subst e
        unfold isP; intro h'
        rw [if_pos h'] at h
        exact iz.1 (by omega) i hij hi
      · exact ih.1 (by omega) i j hij (by omega) hi
    · intro h
      have h1 := ih.2 (fun i j hij hj hi => h i j hij (by omega) hi)
      by_cases e : bAt s k = 46
      · rw [if_pos e]
        have := iz.2 (fun j hj hp => h j k hj (by omega) hp e)
        omega
      · rw [if_neg e]; omega
theorem cntD_pos (s : ByteArray) : ∀ k, 0 < cntD s k ↔ ∃ j, j < k ∧ isD (bAt s j)
  | 0 => by simp [cntD]
  | k + 1 => by
    have ih := cntD_pos s k
    simp only [cntD]
    constructor
    · intro h
      by_cases e : 48 ≤ bAt s k ∧ bAt s k ≤ 57
      · exact ⟨k, by omega, e⟩
      · rw [if_neg e] at h
        obtain ⟨j, hj, hd⟩ := ih.1 (by omega)
        exact ⟨j, by omega, hd⟩
    · rintro ⟨j, hj, hd⟩
      by_cases e : j = k
      · subst e; unfold isD at hd; rw [if_pos hd]; omega
      · have := ih.2 ⟨j, by omega, hd⟩
        omega

set_option maxHeartbeats 1000000 in
theorem cntW (s : ByteArray) (w : World) (hs : s.size ≤ 2000000) :
    Calls Try.prog 27 #[.string s, .int .u8 46] w fun e w' => e = .returned (.int .i64 (cntP s s.size)) ∧ w' = w := by
  go_enter Try.func27, Try.ntmps27
  go_wp2
  go_loop [5, 6] (fun n i => ∃ k : Nat, k ≤ s.size ∧ i = .int .i64 k ∧ n = .int .i64 (cntP s k)) (fun _ i => s.size - (intOf i).toNat)
  case atStart => exact ⟨0, Nat.zero_le _, rfl, rfl⟩
  case round =>
    obtain ⟨k, hk, rfl, rfl⟩ := hrel
    have hc := cntP_le s k
    by_cases hlt : k < s.size
    · have HK : Hid (bAt s k = (s[k].toNat : Int)) := bAt_in hlt
      have HS : Hid (cntP s (k + 1) = cntP s k + if bAt s k = 46 then 1 else 0) := rfl
      by_cases c2 : (s[k].toNat : Int) = 46
      · have b2 : ((s[k].toNat : Int) == 46) = true := beq_iff_eq.2 c2
        have H2 : Hid (cntP s (k + 1) = cntP s k + 1) := by
          show cntP s (k + 1) = cntP s k + 1
          rw [HS.out, if_pos (by rw [HK.out]; exact c2)]
        clear c2
        go_wp2
        go_round
        case rel => exact ⟨k + 1, by omega, by go_num, by rw [H2.out]; go_num⟩
        case measure => simp [intOf]; omega
      · have b2 : ((s[k].toNat : Int) == 46) = false := beq_eq_false_iff_ne.2 c2
        have H2 : Hid (cntP s (k + 1) = cntP s k) := by
          show cntP s (k + 1) = cntP s k
          rw [HS.out, if_neg (by rw [HK.out]; exact c2)]
          rfl
        clear c2
        go_wp2
        go_round
        case rel => exact ⟨k + 1, by omega, by go_num, by rw [H2.out]⟩
        case measure => simp [intOf]; omega
    · obtain rfl : k = s.size := by omega
      go_wp2
      go_ret
      exact ⟨rfl, rfl⟩

set_option maxHeartbeats 1000000 in
theorem cntDW (s : ByteArray) (w : World) (hs : s.size ≤ 2000000) :
    Calls Try.prog 29 #[.string s] w fun e w' => e = .returned (.int .i64 (cntD s s.size)) ∧ w' = w := by
  go_enter Try.func29, Try.ntmps29
  go_wp2
  go_loop [3, 4] (fun n i => ∃ k : Nat, k ≤ s.size ∧ i = .int .i64 k ∧ n = .int .i64 (cntD s k)) (fun _ i => s.size - (intOf i).toNat)
  case atStart => exact ⟨0, Nat.zero_le _, rfl, rfl⟩
  case round =>
    obtain ⟨k, hk, rfl, rfl⟩ := hrel
    have hc := cntD_le s k
    by_cases hlt : k < s.size
    · have HK : Hid (bAt s k = (s[k].toNat : Int)) := bAt_in hlt
      have HS : Hid (cntD s (k + 1) = cntD s k + if 48 ≤ bAt s k ∧ bAt s k ≤ 57 then 1 else 0) := rfl
      by_cases c2 : isD (s[k].toNat : Int)
      · have HC : Hid (isD (s[k].toNat : Int)) := c2
        have H2 : Hid (cntD s (k + 1) = cntD s k + 1) := by
          show cntD s (k + 1) = cntD s k + 1
          rw [HS.out, if_pos (by rw [HK.out]; exact c2)]
        clear c2
        go_wp2_with (first | (go_at_call 31; refine (dig_yes _ _ HC.out).mono ?_; rintro e w' ⟨rfl, rfl⟩))
        go_round
        case rel => exact ⟨k + 1, by omega, by go_num, by rw [H2.out]; go_num⟩
        case measure => simp [intOf]; omega
      · have HC : Hid (¬ isD (s[k].toNat : Int)) := c2
        have H2 : Hid (cntD s (k + 1) = cntD s k) := by
          show cntD s (k + 1) = cntD s k
          rw [HS.out, if_neg (by rw [HK.out]; exact c2)]
          rfl
        clear c2
        go_wp2_with (first | (go_at_call 31; refine (dig_no _ _ HC.out).mono ?_; rintro e w' ⟨rfl, rfl⟩))
        go_round
        case rel => exact ⟨k + 1, by omega, by go_num, by rw [H2.out]⟩
        case measure => simp [intOf]; omega
    · obtain rfl : k = s.size := by omega
      go_wp2
      go_ret
      exact ⟨rfl, rfl⟩

set_option maxHeartbeats 1000000 in
theorem idxW (s : ByteArray) (w : World) (hs : s.size ≤ 2000000) :
    Calls Try.prog 18 #[.string s, .int .u8 46] w fun e w' => GivesI (PtIs s s.size) e ∧ w' = w := by
  go_enter Try.func18, Try.ntmps18
  go_wp2
  go_loop [5] (fun i => ∃ k : Nat, k ≤ s.size ∧ i = .int .i64 k ∧ ∀ j, j < k → ¬ isP (bAt s j)) (fun i => s.size - (intOf i).toNat)
  case atStart => exact ⟨0, Nat.zero_le _, rfl, by omega⟩
  case round =>
    obtain ⟨k, hk, rfl, hall⟩ := hrel
    have HA : Hid (∀ j, j < k → ¬ isP (bAt s j)) := hall
    clear hall
    by_cases hlt : k < s.size
    · have HK : Hid (bAt s k = (s[k].toNat : Int)) := bAt_in hlt
      by_cases c2 : (s[k].toNat : Int) = 46
      · have b2 : ((s[k].toNat : Int) == 46) = true := beq_iff_eq.2 c2
        have HX : Hid (PtIs s s.size k) := .inl ⟨k, hlt, rfl, by rw [HK.out]; exact c2, HA.out⟩
        clear c2
        go_wp2
        go_ret
        exact ⟨givesI HX.out, rfl⟩
      · have b2 : ((s[k].toNat : Int) == 46) = false := beq_eq_false_iff_ne.2 c2
        have HX : Hid (¬ isP (bAt s k)) := by
          show ¬ isP _
          rw [HK.out]; exact c2
        clear c2
        go_wp2
        go_round
        case rel => exact ⟨k + 1, by omega, by go_num, fun j hj => by
          by_cases e : j = k
          · subst e; exact HX.out
          · exact HA.out j (by omega)⟩
        case measure => simp [intOf]; omega
    · obtain rfl : k = s.size := by omega
      have HX : Hid (PtIs s s.size (-1)) := .inr ⟨rfl, HA.out⟩
      go_wp2
      go_ret
      exact ⟨givesI HX.out, rfl⟩

set_option maxHeartbeats 1000000 in
theorem fstW (s : ByteArray) (w : World) (hs : s.size ≤ 2000000) :
    Calls Try.prog 28 #[.string s] w fun e w' => GivesI (FirstIs s s.size) e ∧ w' = w := by
  go_enter Try.func28, Try.ntmps28
  go_wp2
  go_loop [3] (fun i => ∃ k : Nat, k ≤ s.size ∧ i = .int .i64 k ∧ ∀ j, j < k → ¬ isNZ (bAt s j)) (fun i => s.size - (intOf i).toNat)
  case atStart => exact ⟨0, Nat.zero_le _, rfl, by omega⟩
  case round =>
    obtain ⟨k, hk, rfl, hall⟩ := hrel
    have HA : Hid (∀ j, j < k → ¬ isNZ (bAt s j)) := hall
    clear hall
    by_cases hlt : k < s.size
    · have HK : Hid (bAt s k = (s[k].toNat : Int)) := bAt_in hlt
      by_cases c2 : 49 ≤ (s[k].toNat : Int) ∧ (s[k].toNat : Int) ≤ 57
      · have HX : Hid (FirstIs s s.size k) := .inl ⟨k, hlt, rfl, by rw [HK.out]; exact c2, HA.out⟩
        obtain ⟨l1, l2⟩ := c2
        go_wp2
        go_ret
        exact ⟨givesI HX.out, rfl⟩
      · have HX : Hid (¬ isNZ (bAt s k)) := by
          show ¬ isNZ _
          rw [HK.out]; exact c2
        by_cases l1 : 49 ≤ (s[k].toNat : Int)
        · have l2 : 57 < (s[k].toNat : Int) := by omega
          clear c2
          go_wp2
          go_round
          case rel => exact ⟨k + 1, by omega, by go_num, fun j hj => by
            by_cases e : j = k
            · subst e; exact HX.out
            · exact HA.out j (by omega)⟩
          case measure => simp [intOf]; omega
        · clear c2
          go_wp2
          go_round
          case rel => exact ⟨k + 1, by omega, by go_num, fun j hj => by
            by_cases e : j = k
            · subst e; exact HX.out
            · exact HA.out j (by omega)⟩
          case measure => simp [intOf]; omega
    · obtain rfl : k = s.size := by omega
      have HX : Hid (FirstIs s s.size (-1)) := .inr ⟨rfl, HA.out⟩
      go_wp2
      go_ret
      exact ⟨givesI HX.out, rfl⟩
end Go.Proofs.Qxb6601363a.Num
