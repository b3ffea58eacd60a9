import Derived.Test.Qxb6600194aMs
import Derived.Test.Qxb6600194aMk
import Derived.Test.Qxb6600194aBig
namespace Go.Proofs.Qxb6600194a.Req
open Go.RowKit Go.Maps

set_option maxHeartbeats 2000000 in
theorem walk3 (w : World) (a : Option Addr) (lt cap : Nat) (A D : Nat → Int) (hth : Pairs w a lt (fun i => .int .i64 (A i)) (fun i => .int .i64 (D i))) (hn : a = none → lt = 0 ∧ cap = 0)
    (a2 : Option Addr) (lr cap2 : Nat) (U : Nat → ByteArray) (B : Nat → Bool) (hrv : Pairs w a2 lr (fun i => .string (U i)) (fun i => .bool (B i))) (hn2 : a2 = none → lr = 0 ∧ cap2 = 0)
    (hlt : lt ≤ maxLen) (hlr : lr ≤ maxLen) (hU : ∀ i, i < lr → (U i).size ≤ maxLen) :
    Calls Try.prog 3 #[.slice a lt cap, .slice a2 lr cap2] w fun e w' => e = .returned (.bool true) ∧ Below w.heap.size w w' := by
  go_enter Try.func3, Try.ntmps3
  go_wp2_with fail
  refine (bytes8 _ a lt cap a2 lr cap2 U _ hlt hlr hU hrv).mono ?_
  rintro e w' ⟨⟨bb, rfl, -⟩, rfl⟩
  cases bb
  · go_wp2
    go_ret
    exact ⟨rfl, Below.refl _ _⟩
  go_wp2_with fail
  refine (big _ a lt cap a2 lr cap2 U _ _ hlt hlr (by unfold maxLen; decide) hU hrv).mono ?_
  rintro e w1 ⟨⟨bb, rfl, hbd⟩, rfl⟩
  cases bb
  case true =>
    go_wp2
    go_ret
    exact ⟨rfl, Below.refl _ _⟩
  obtain ⟨g1, g2, g3⟩ := hbd rfl
  clear hbd
  unfold maxLen at hlt hlr
  by_cases hbig : 4096 < lr
  · go_wp2
    go_ret
    exact ⟨rfl, Below.refl _ _⟩
  · go_wp2_with fail
    refine (mkth _ a lt cap A D g1 hth hn).mono ?_
    rintro e w2 ⟨v, rfl, hoT, hB2⟩
    obtain ⟨aT, cT, rfl, hpT⟩ := pairs_of_own hoT
    go_wp2_with fail
    refine (mkrv _ a2 lr cap2 U B (by omega) (hrv.below hB2) hn2).mono ?_
    rintro e w3 ⟨v3, rfl, hoR, hB3⟩
    obtain ⟨aR, cR, rfl, hpR⟩ := pairs_of_own hoR
    have hpT3 := hpT.below hB3
    clear hoT hoR
    go_wp2_with fail
    refine (rs_any _ aT lt cT A D g1 hpT3 aR lr cR U B (by omega) hU hpR).mono ?_
    rintro e w4 ⟨rfl, hB4⟩
    have hth4 := (hth.below hB2).below hB3 |>.below hB4
    have hrv4 := (hrv.below hB2).below hB3 |>.below hB4
    go_wp2_with fail
    refine (ms _ a lt cap A D hth4 a2 lr cap2 U B hrv4 g1 (by omega)).mono ?_
    rintro e w5 ⟨rfl, hB5⟩
    have hB : Below w1.heap.size w1 w5 := hB2.trans ((hB3.mono hB2.size).trans ((hB4.mono (Nat.le_trans hB2.size hB3.size)).trans (hB5.mono (Nat.le_trans (Nat.le_trans hB2.size hB3.size) hB4.size))))
    go_wp2
    go_ret
    exact ⟨rfl, hB⟩
end Go.Proofs.Qxb6600194a.Req
