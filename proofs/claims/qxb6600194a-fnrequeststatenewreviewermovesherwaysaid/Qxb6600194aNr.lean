import Derived.Test.Qxb6600194aRs
import Derived.Test.Qxb6600194aMk
import Derived.Test.Qxb6600194aBig
namespace Go.Proofs.Qxb6600194a.Req
open Go.RowKit Go.Maps

/-- a review by a new author moves the state only her way -/
def Moves (ap : Bool) (s1 s2 : ByteArray) : Prop :=
  (s1 = sDenied ∧ s2 = sDenied) ∨ (s1 = sApproved ∧ s2 = sApproved) ∨ (s1 = sApproved ∧ ap = false ∧ s2 = sDenied) ∨ (s1 = sPending ∧ s2 = sPending) ∨ (s1 = sPending ∧ ap = true ∧ s2 = sApproved) ∨ (s1 = sPending ∧ ap = false ∧ s2 = sDenied)

theorem anyDeny_mono {D : Nat → Int} {x y : Int} (n : Nat) (h : x ≤ y) (hx : anyDeny D x n = true) : anyDeny D y n = true := by
  simp only [anyDeny, List.any_eq_true, List.mem_range, decide_eq_true_eq] at *
  obtain ⟨i, hi, h1⟩ := hx
  exact ⟨i, hi, by omega⟩
theorem allApp_mono {A : Nat → Int} {x y : Int} (n : Nat) (h : x ≤ y) (hx : allApp A x n = true) : allApp A y n = true := by
  simp only [allApp, List.all_eq_true, List.mem_range, decide_eq_true_eq] at *
  intro i hi
  have := hx i hi
  omega

theorem verdict_moves (A D : Nat → Int) (x y : Int) (n : Nat) (ap : Bool) : Moves ap (verdict A D x y n) (verdict A D (x + if ap then 1 else 0) (y + if ap then 0 else 1) n) := by
  cases ap
  · simp only [Bool.false_eq_true, if_false, Int.add_zero]
    unfold verdict Moves
    cases h1 : anyDeny D y n
    · cases h2 : anyDeny D (y + 1) n <;> cases h3 : allApp A x n <;> simp
    · rw [anyDeny_mono n (by omega) h1]; simp
  · simp only [if_true, Int.add_zero]
    unfold verdict Moves
    cases h1 : anyDeny D y n
    · cases h3 : allApp A x n
      · cases h4 : allApp A (x + 1) n <;> simp
      · rw [allApp_mono n (by omega) h3]; simp
    · simp

def addU (U : Nat → ByteArray) (lr : Nat) (ex : ByteArray) (i : Nat) : ByteArray := if i < lr then U i else ex
def addB (B : Nat → Bool) (lr : Nat) (ap : Bool) (i : Nat) : Bool := if i < lr then B i else ap

theorem cnt_add (U : Nat → ByteArray) (B : Nat → Bool) (lr : Nat) (ex : ByteArray) (ap v : Bool) (h : ∀ j, j < lr → U j ≠ ex) :
    cnt (addU U lr ex) (addB B lr ap) v (lr + 1) = cnt U B v lr + if ap = v then 1 else 0 := by
  have h0 : cnt (addU U lr ex) (addB B lr ap) v lr = cnt U B v lr := cnt_congr fun j hj => ⟨by simp [addU, hj], by simp [addB, hj]⟩
  have hs : seenBy (addU U lr ex) lr (addU U lr ex lr) = false := by
    rw [seenBy_false]
    intro j hj
    simp only [addU, hj, if_true, Nat.lt_irrefl, if_false]
    exact h j hj
  have hb : addB B lr ap lr = ap := by simp [addB]
  simp only [cnt, h0, hs, hb, true_and]

theorem state_moves (lt : Nat) (A D : Nat → Int) (lr : Nat) (U : Nat → ByteArray) (B : Nat → Bool) (ex : ByteArray) (ap : Bool) (h : ∀ j, j < lr → U j ≠ ex) :
    Moves ap (state lt A D lr U B) (state lt A D (lr + 1) (addU U lr ex) (addB B lr ap)) := by
  unfold state
  rw [cnt_add U B lr ex ap true h, cnt_add U B lr ex ap false h]
  have e1 : (if ap = true then (1 : Int) else 0) = if ap then 1 else 0 := rfl
  have e2 : (if ap = false then (1 : Int) else 0) = if ap then 0 else 1 := by cases ap <;> rfl
  rw [e1, e2]
  split
  · exact verdict_moves _ _ _ _ _ _
  · exact verdict_moves _ _ _ _ _ _

theorem flat_add (U : Nat → ByteArray) (B : Nat → Bool) (lr : Nat) (ex : ByteArray) (ap : Bool) :
    flat (fun i => .string (U i)) (fun i => .bool (B i)) lr ++ [.string ex, .bool ap] = flat (fun i => .string (addU U lr ex i)) (fun i => .bool (addB B lr ap i)) (lr + 1) := by
  rw [flat_succ]
  have e : flat (fun i => .string (U i)) (fun i => .bool (B i)) lr = flat (fun i => .string (addU U lr ex i)) (fun i => .bool (addB B lr ap i)) lr := by
    unfold flat
    rw [List.flatMap_def, List.flatMap_def]
    congr 1
    apply List.map_congr_left
    intro i hi
    have hi := List.mem_range.1 hi
    simp [addU, addB, hi]
  rw [e]
  simp [addU, addB]

theorem cDD : (sDenied.toList == ([68, 69, 78, 73, 69, 68] : List UInt8)) = true := by rw [ByteArray.toList_eq]; rfl
theorem cDA : (sDenied.toList == ([65, 80, 80, 82, 79, 86, 69, 68] : List UInt8)) = false := by rw [ByteArray.toList_eq]; rfl
theorem cDP : (sDenied.toList == ([80, 69, 78, 68, 73, 78, 71] : List UInt8)) = false := by rw [ByteArray.toList_eq]; rfl
theorem cAD : (sApproved.toList == ([68, 69, 78, 73, 69, 68] : List UInt8)) = false := by rw [ByteArray.toList_eq]; rfl
theorem cAA : (sApproved.toList == ([65, 80, 80, 82, 79, 86, 69, 68] : List UInt8)) = true := by rw [ByteArray.toList_eq]; rfl
theorem cAP : (sApproved.toList == ([80, 69, 78, 68, 73, 78, 71] : List UInt8)) = false := by rw [ByteArray.toList_eq]; rfl
theorem cPD : (sPending.toList == ([68, 69, 78, 73, 69, 68] : List UInt8)) = false := by rw [ByteArray.toList_eq]; rfl
theorem cPA : (sPending.toList == ([65, 80, 80, 82, 79, 86, 69, 68] : List UInt8)) = false := by rw [ByteArray.toList_eq]; rfl
theorem cPP : (sPending.toList == ([80, 69, 78, 68, 73, 78, 71] : List UInt8)) = true := by rw [ByteArray.toList_eq]; rfl

theorem two_new (w : World) (x y : Value) (t : TypeId) : ∀ j u, [x, y][j]? = some u → (w.alloc (.cells #[x, y] t)).cell? ((⟨w.heap.size, 0, none⟩ : Addr).add j) = some u := by
  intro j u h
  match j, h with
  | 0, h => cases h; go_simp
  | 1, h => cases h; go_simp
  | j + 2, h => simp at h

set_option maxHeartbeats 2000000 in
theorem walk5 (w : World) (a : Option Addr) (lt cap : Nat) (A D : Nat → Int) (hth : Pairs w a lt (fun i => .int .i64 (A i)) (fun i => .int .i64 (D i))) (hn : a = none → lt = 0 ∧ cap = 0)
    (a2 : Option Addr) (lr cap2 : Nat) (U : Nat → ByteArray) (B : Nat → Bool) (hrv : Pairs w a2 lr (fun i => .string (U i)) (fun i => .bool (B i))) (hn2 : a2 = none → lr = 0 ∧ cap2 = 0)
    (ex : ByteArray) (ap : Bool) (hlt : lt ≤ maxLen) (hlr : lr ≤ maxLen) (hex : ex.size ≤ maxLen) (hU : ∀ i, i < lr → (U i).size ≤ maxLen) :
    Calls Try.prog 5 #[.slice a lt cap, .slice a2 lr cap2, .string ex, .bool ap] w fun e w' => e = .returned (.bool true) ∧ Below w.heap.size w w' := by
  go_enter Try.func5, Try.ntmps5
  go_wp2_with fail
  refine (bytes15 _ a lt cap a2 lr cap2 U _ ex ap hlt hlr hex hU hrv).mono ?_
  rintro e w' ⟨⟨bb, rfl, -⟩, rfl⟩
  cases bb
  · go_wp2
    go_ret
    exact ⟨rfl, Below.refl _ _⟩
  go_wp2_with fail
  refine (big _ a lt cap a2 lr cap2 U _ ex hlt hlr hex hU hrv).mono ?_
  rintro e w1 ⟨⟨bb, rfl, hbd⟩, rfl⟩
  cases bb
  case true =>
    go_wp2
    go_ret
    exact ⟨rfl, Below.refl _ _⟩
  obtain ⟨g1, g2, g3⟩ := hbd rfl
  clear hbd
  unfold maxLen at hlt hlr hex
  go_wp2_with fail
  go_loop [9] (fun i => ∃ k : Nat, k ≤ lr ∧ i = .int .i64 k ∧ ∀ j, j < k → U j ≠ ex) (fun i => lr - (intOf i).toNat)
  case atStart => exact ⟨0, Nat.zero_le _, rfl, by omega⟩
  case round =>
    obtain ⟨k, hk, rfl, hne⟩ := hrel
    have HNE : Hid (∀ j, j < k → U j ≠ ex) := hne
    clear hne
    by_cases hkl : k < lr
    · have hrv' := hrv
      rcases hrv' with h0 | ⟨b, off, rfl, hb, hc⟩
      · omega
      have hc0 := (hc k hkl).1
      have HC : Hid (Pairs w1 (some ⟨b, off, none⟩) lr (fun i => .string (U i)) (fun i => .bool (B i))) := hrv
      clear hc hrv hU hth
      by_cases heq : U k = ex
      · have hb : ((U k).toList == ex.toList) = true := by rw [heq]; simp
        have HE : Hid (U k = ex) := heq
        clear heq
        go_wp2
        go_ret
        exact ⟨rfl, Below.refl _ _⟩
      · have hb : ((U k).toList == ex.toList) = false := by
          rw [beq_eq_false_iff_ne, ByteArray.toList_eq, ByteArray.toList_eq]
          intro h
          exact heq (ByteArray.ext (Array.toList_inj.1 h))
        have HE : Hid (U k ≠ ex) := heq
        clear heq
        go_wp2
        go_round
        case rel => exact ⟨k + 1, by omega, by go_num, fun j hj => by
          by_cases e : j = k
          · subst e; exact HE.out
          · exact HNE.out j (by omega)⟩
        case measure => simp [intOf]; omega
    · obtain rfl : k = lr := by omega
      go_wp2_with fail
      refine (mkth _ a lt cap A D g1 hth hn).mono ?_
      rintro e w2 ⟨v, rfl, hoT, hB2⟩
      obtain ⟨aT, cT, rfl, hpT⟩ := pairs_of_own hoT
      go_wp2_with fail
      refine (mkrv _ a2 k cap2 U B (by omega) (hrv.below hB2) hn2).mono ?_
      rintro e w3 ⟨v3, rfl, hoR, hB3⟩
      obtain ⟨aR, cR, rfl, hpR⟩ := pairs_of_own hoR
      go_wp2_with fail
      refine (mkrv _ a2 k cap2 U B (by omega) ((hrv.below hB2).below hB3) hn2).mono ?_
      rintro e w4 ⟨v4, rfl, hoM, hB4⟩
      obtain ⟨i0, hi, hz0, hz1, hz2⟩ := info_parts info35
      have hoM' := hoM.alloc (.cells #[.string ex, .bool ap] 35)
      go_wp2_with (first | (at_builtin; go_must (refine wpList_append_own _ rfl _ _ 29 rfl w3.heap.size 35 i0 (.agg #[.string ByteArray.empty, .bool false]) 2 24 Try.underlying29 hi hz0 hz1 hz2 rfl (by decide) _ _ _ rfl hoM' ⟨w4.heap.size, 0, none⟩ 1 1 [.string ex, .bool ap] rfl rfl (two_new _ _ _ _) (by simp [Value.oneCell']) (by unfold maxLen; omega) (by omega) (by have := hB4.size; simp; omega) ?_; intro v5 w5 hown5 hgrow5 hnil5)))
      have hB5 : Below w3.heap.size w3 w5 := (hB4.alloc hB4.size _).grown hgrow5 (by have := hB4.size; simp; omega) (fun j hj => (hoM.lt j hj).1)
      rw [flat_add] at hown5
      obtain ⟨aM, cM, rfl, hpM⟩ := pairs_of_own hown5
      have hm := state_moves lt A D k U B ex ap HNE.out
      have K1 : Hid (∀ w, Pairs w aT lt (fun i => .int .i64 (A i)) (fun i => .int .i64 (D i)) → Pairs w aR k (fun i => .string (U i)) (fun i => .bool (B i)) → Calls Try.prog 10 #[.slice aT lt cT, .slice aR k cR] w fun e w' => e = .returned (.string (state lt A D k U B)) ∧ Below w.heap.size w w') :=
        fun w h1 h2 => rs_any w aT lt cT A D g1 h1 aR k cR U B (by omega) hU h2
      have K2 : Hid (∀ w, Pairs w aT lt (fun i => .int .i64 (A i)) (fun i => .int .i64 (D i)) → Pairs w aM (k + 1) (fun i => .string (addU U k ex i)) (fun i => .bool (addB B k ap i)) → Calls Try.prog 10 #[.slice aT lt cT, .slice aM (k + 1) cM] w fun e w' => e = .returned (.string (state lt A D (k + 1) (addU U k ex) (addB B k ap))) ∧ Below w.heap.size w w') :=
        fun w h1 h2 => rs_any w aT lt cT A D g1 h1 aM (k + 1) cM _ _ (by omega) (fun i _ => by unfold addU; split; exact hU i (by assumption); unfold maxLen; omega) h2
      generalize state lt A D k U B = s1 at hm K1
      generalize state lt A D (k + 1) (addU U k ex) (addB B k ap) = s2 at hm K2
      have hpT5 := (hpT.below hB3).below hB5
      have hpR5 := hpR.below hB5
      refine (K1.out _ hpT5 hpR5).mono ?_
      rintro e w6 ⟨rfl, hB6⟩
      have hpT6 := hpT5.below hB6
      have hpM6 := hpM.below hB6
      clear hoT hoR hoM hoM' hown5 hgrow5 hnil5 hpT hpR hpT5 hpR5 hpM hi hz0 hz1 hz2
      go_wp2_with fail
      refine (K2.out _ hpT6 hpM6).mono ?_
      rintro e w7 ⟨rfl, hB7⟩
      have hB : Below w1.heap.size w1 w7 := hB2.trans ((hB3.mono hB2.size).trans (((hB5.mono (Nat.le_trans hB2.size hB3.size)).trans (hB6.mono (Nat.le_trans (Nat.le_trans hB2.size hB3.size) hB5.size))).trans (hB7.mono (Nat.le_trans (Nat.le_trans (Nat.le_trans hB2.size hB3.size) hB5.size) hB6.size))))
      clear K1 K2 hpT6 hpM6
      have qDD := cDD
      have qDA := cDA
      have qDP := cDP
      have qAD := cAD
      have qAA := cAA
      have qAP := cAP
      have qPD := cPD
      have qPA := cPA
      have qPP := cPP
      rcases hm with ⟨rfl, rfl⟩ | ⟨rfl, rfl⟩ | ⟨rfl, rfl, rfl⟩ | ⟨rfl, rfl⟩ | ⟨rfl, rfl, rfl⟩ | ⟨rfl, rfl, rfl⟩
      all_goals
        go_wp2
        all_goals
          go_ret
          exact ⟨rfl, hB⟩
end Go.Proofs.Qxb6600194a.Req
