import Derived.Test.Qxb6600194aRs
import Derived.Test.Qxb6600194aPlainB
namespace Go.Proofs.Qxb6600194a.Req
open Go.RowKit Go.Maps

theorem atl1 (x : Int) (w : World) : Calls Try.prog 21 #[.int .i64 x] w fun e w' => e = .returned (.int .i64 (at1 x)) ∧ w' = w := by
  by_cases h : x < 1
  · have HX : Hid (at1 x = 1) := at1_lt h
    go_enter Try.func21, Try.ntmps21
    go_wp2
    go_ret
    exact ⟨by rw [HX.out]; rfl, rfl⟩
  · have HX : Hid (at1 x = x) := at1_ge (by omega)
    go_enter Try.func21, Try.ntmps21
    go_wp2
    go_ret
    exact ⟨by rw [HX.out]; rfl, rfl⟩

set_option maxHeartbeats 2000000 in
theorem ms (w : World) (a : Option Addr) (lt cap : Nat) (A D : Nat → Int) (hth : Pairs w a lt (fun i => .int .i64 (A i)) (fun i => .int .i64 (D i)))
    (a2 : Option Addr) (lr cap2 : Nat) (U : Nat → ByteArray) (B : Nat → Bool) (hrv : Pairs w a2 lr (fun i => .string (U i)) (fun i => .bool (B i)))
    (hlt : lt ≤ 65536) (hlr : lr ≤ 65536) :
    Calls Try.prog 13 #[.slice a lt cap, .slice a2 lr cap2] w fun e w' => e = .returned (.string (state lt A D lr U B)) ∧ Below w.heap.size w w' := by
  go_enter Try.func13, Try.ntmps13
  go_wp2
  go_loopw [5, 6, 7] (fun ap dn i wr => ∃ k : Nat, k ≤ lr ∧ i = .int .i64 k ∧ ap = .int .i64 (cnt U B true k) ∧ dn = .int .i64 (cnt U B false k) ∧ ∃ n, wr = w.drewN n) (fun _ _ i _ => lr - (intOf i).toNat)
  case atStart => exact ⟨0, Nat.zero_le _, rfl, rfl, rfl, 0, rfl⟩
  case round =>
    obtain ⟨k, hk, rfl, rfl, rfl, n, rfl⟩ := hrel
    have hca := cnt_bd U B true k
    have hcd := cnt_bd U B false k
    by_cases hkl : k < lr
    · rcases hrv with h0 | ⟨b, off, rfl, hb, hc⟩
      · omega
      clear hth
      have hck := (hc k hkl).1
      have hck1 := (hc k hkl).2
      have HC : Hid (∀ i, i < lr → w.cell? ⟨b, off + i * 2, none⟩ = some (.string (U i)) ∧ w.cell? ⟨b, off + i * 2 + 1, none⟩ = some (.bool (B i))) := hc
      clear hc
      go_wp2
      go_loopw [8, 9] (fun sn j wr => ∃ q : Nat, q ≤ k ∧ j = .int .i64 q ∧ sn = .bool false ∧ seenBy U q (U k) = false ∧ ∃ n, wr = w.drewN n) (fun _ j _ => k - (intOf j).toNat)
      case atStart => exact ⟨0, Nat.zero_le _, rfl, rfl, rfl, n, rfl⟩
      case round =>
        obtain ⟨q, hq, rfl, rfl, hs, n, rfl⟩ := hrel
        have HS : Hid (seenBy U q (U k) = false) := hs
        clear hs
        by_cases hqk : q < k
        · have hcq := (HC.out q (by omega)).1
          have hql : q < lr := by omega
          by_cases heq : U q = U k
          · have hbq : ((U q).toList == (U k).toList) = true := by rw [heq]; simp
            have HSK : Hid (seenBy U k (U k) = true) := seenBy_true.2 ⟨q, hqk, heq⟩
            clear heq
            go_wp2
            go_quiet (fail)
            go_wp2
            go_roundw
            case rel => exact ⟨k + 1, by omega, by go_num, by rw [cnt_seen HSK.out], by rw [cnt_seen HSK.out], _, rfl⟩
            case measure => simp [intOf]; omega
          · have hbq : ((U q).toList == (U k).toList) = false := by
              rw [beq_eq_false_iff_ne, ByteArray.toList_eq, ByteArray.toList_eq]
              intro h
              exact heq (ByteArray.ext (Array.toList_inj.1 h))
            have HNE : Hid (U q ≠ U k) := heq
            clear heq
            go_wp2
            go_quiet (fail)
            go_wp2
            go_roundw
            case rel => exact ⟨q + 1, by omega, by go_num, rfl, by rw [seenBy_succ, HS.out, decide_eq_false HNE.out]; rfl, _, rfl⟩
            case measure => simp [intOf]; omega
        · obtain rfl : q = k := by omega
          cases hBk : B q
          all_goals
            have HBK : Hid (B q = _) := hBk
            rw [hBk] at hck1
            clear hBk
            go_wp2
          · go_roundw
            case rel => exact ⟨q + 1, by omega, by go_num, by rw [cnt_miss (v := true) (by rw [HBK.out]; decide)], by rw [cnt_hit (v := false) HS.out HBK.out], _, rfl⟩
            case measure => simp [intOf]; omega
          · go_roundw
            case rel => exact ⟨q + 1, by omega, by go_num, by rw [cnt_hit (v := true) HS.out HBK.out], by rw [cnt_miss (v := false) (by rw [HBK.out]; decide)], _, rfl⟩
            case measure => simp [intOf]; omega
    · obtain rfl : k = lr := by omega
      clear hrv
      rcases Nat.eq_zero_or_pos lt with h0 | h0
      · subst h0
        have HS : Hid (state 0 A D k U B = verdict (fun _ => 0) (fun _ => 0) (cnt U B true k) (cnt U B false k) 1) := rfl
        clear hth
        generalize cnt U B true k = ca at *
        generalize cnt U B false k = cd at *
        have HV : Hid (verdict (fun _ => 0) (fun _ => 0) ca cd 1 = if 1 ≤ cd then sDenied else if 1 ≤ ca then sApproved else sPending) := verdict_by
        go_wp2
        all_goals
          go_ret
          exact ⟨ret_str (by rw [HS.out, HV.out]; first | (rw [if_pos (by omega)]; rfl) | (rw [if_neg (by omega), if_pos (by omega)]; rfl) | (rw [if_neg (by omega), if_neg (by omega)]; rfl)), (Below.refl _ _).trans (below_drewN (Below.refl _ _) _)⟩
      · rcases hth with h1 | ⟨b, off, rfl, hb, hc⟩
        · omega
        obtain ⟨m, rfl⟩ : ∃ m, lt = m + 1 := ⟨lt - 1, by omega⟩
        have HS : Hid (state (m + 1) A D k U B = verdict A D (cnt U B true k) (cnt U B false k) (m + 1)) := state_some h0
        generalize cnt U B true k = ca at *
        generalize cnt U B false k = cd at *
        have hc00 := (hc 0 (by omega)).1
        have hc01 := (hc 0 (by omega)).2
        have HC : Hid (∀ i, i < m + 1 → w.cell? ⟨b, off + i * 2, none⟩ = some (.int .i64 (A i)) ∧ w.cell? ⟨b, off + i * 2 + 1, none⟩ = some (.int .i64 (D i))) := hc
        clear hc
        simp only [Nat.zero_mul, Nat.add_zero] at hc00 hc01
        go_wp2_with (first | (go_at_call 21; refine (atl1 _ _).mono ?_; rintro e w' ⟨rfl, rfl⟩))
        have HV : Hid (verdict A D ca cd (m + 1) = if minTo D m ≤ cd then sDenied else if maxTo A m ≤ ca then sApproved else sPending) := verdict_by
        go_loop [10, 11, 12] (fun nd na i => ∃ q : Nat, q ≤ m ∧ i = .int .i64 ((q : Int) + 1) ∧ nd = .int .i64 (minTo D q) ∧ na = .int .i64 (maxTo A q)) (fun _ _ i => m + 1 - (intOf i).toNat)
        case atStart => exact ⟨0, Nat.zero_le _, rfl, rfl, rfl⟩
        case round =>
          obtain ⟨q, hq, rfl, rfl, rfl⟩ := hrel
          by_cases hqm : q < m
          · have hcq0 := (HC.out (q + 1) (by omega)).1
            have hcq1 := (HC.out (q + 1) (by omega)).2
            have HMN : Hid (minTo D (q + 1) = if at1 (D (q + 1)) < minTo D q then at1 (D (q + 1)) else minTo D q) := rfl
            have HMX : Hid (maxTo A (q + 1) = if maxTo A q < at1 (A (q + 1)) then at1 (A (q + 1)) else maxTo A q) := rfl
            go_wp2_with (first | (go_at_call 21; refine (atl1 _ _).mono ?_; rintro e w' ⟨rfl, rfl⟩))
            all_goals
              go_round
              case rel => exact ⟨q + 1, by omega, by go_num, by rw [HMN.out]; first | rw [if_pos (by omega)] | rw [if_neg (by omega)], by rw [HMX.out]; first | rw [if_pos (by omega)] | rw [if_neg (by omega)]⟩
              case measure => simp [intOf]; omega
          · obtain rfl : q = m := by omega
            go_wp2
            all_goals
              go_ret
              exact ⟨ret_str (by rw [HS.out, HV.out]; first | (rw [if_pos (by omega)]; rfl) | (rw [if_neg (by omega), if_pos (by omega)]; rfl) | (rw [if_neg (by omega), if_neg (by omega)]; rfl)), (Below.refl _ _).trans (below_drewN (Below.refl _ _) _)⟩
end Go.Proofs.Qxb6600194a.Req
