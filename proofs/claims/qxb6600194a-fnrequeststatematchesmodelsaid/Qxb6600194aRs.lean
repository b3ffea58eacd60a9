import Derived.Test.Qxb6600194aReq
namespace Go.Proofs.Qxb6600194a.Req
open Go.RowKit Go.Maps

theorem law9 : Keyed Try.prog 9 := string_keyed Try.underlying9
theorem zero4 (w : World) : (zeroValue 4).run Try.prog w = .ok (.bool false) w := by kernel_rfl

theorem state_some {lt : Nat} (h : 0 < lt) {A D : Nat → Int} {lr : Nat} {U : Nat → ByteArray} {B : Nat → Bool} : state lt A D lr U B = verdict A D (cnt U B true lr) (cnt U B false lr) lt := by
  unfold state; rw [if_neg (by omega)]

theorem ret_str {a b : ByteArray} (h : a = b) : Ending.returned (.string a) = .returned (.string b) := by rw [h]
theorem verdict_denied {A D : Nat → Int} {ap dn : Int} {n k : Nat} (hk : k < n) (h : at1 (D k) ≤ dn) : verdict A D ap dn n = ⟨#[68, 69, 78, 73, 69, 68]⟩ := by
  unfold verdict; rw [anyDeny_of hk h]; rfl
theorem verdict_app {A D : Nat → Int} {ap dn : Int} {n : Nat} (h : anyDeny D dn n = false) (h' : allApp A ap n = true) : verdict A D ap dn n = ⟨#[65, 80, 80, 82, 79, 86, 69, 68]⟩ := by
  unfold verdict; rw [h, h']; rfl
theorem verdict_pend {A D : Nat → Int} {ap dn : Int} {n : Nat} (h : anyDeny D dn n = false) (h' : allApp A ap n = false) : verdict A D ap dn n = ⟨#[80, 69, 78, 68, 73, 78, 71]⟩ := by
  unfold verdict; rw [h, h']; rfl

theorem bcell {W w1 : World} (hb : Below W.heap.size W w1) : (∀ b o, b < W.heap.size → w1.cell? ⟨b, o, none⟩ = W.cell? ⟨b, o, none⟩) ∧ (∀ b o, b < W.heap.size → w1.frozen? ⟨b, o, none⟩ = W.frozen? ⟨b, o, none⟩) :=
  ⟨fun b o h => hb.cell (p := ⟨b, o, none⟩) h, fun b o h => hb.frozen (p := ⟨b, o, none⟩) h⟩

theorem cell_new1 (w : World) (x y : Value) (t : TypeId) : (w.alloc (.cells #[x, y] t)).cell? ⟨w.heap.size, 1, none⟩ = some y := by go_simp

theorem cell_put {w w1 : World} {B : Nat} {x y : Value} {t : TypeId} (h : (w.alloc (.cells #[x, y] t)).grownBy w1 (some B)) (hB : B < w.heap.size) : w1.cell? ⟨w.heap.size, 1, none⟩ = some y :=
  h.cell (cell_new1 w x y t) (by simp; omega)

set_option maxHeartbeats 1000000 in
theorem rs_some (w : World) (b off lt cap : Nat) (A D : Nat → Int) (hlt : 0 < lt) (hltm : lt ≤ 65536) (hb : b < w.heap.size)
    (hth : ∀ i, i < lt → w.cell? ⟨b, off + i * 2, none⟩ = some (.int .i64 (A i)) ∧ w.cell? ⟨b, off + i * 2 + 1, none⟩ = some (.int .i64 (D i)))
    (a2 : Option Addr) (lr cap2 : Nat) (U : Nat → ByteArray) (B : Nat → Bool) (hlrm : lr ≤ 65536) (hU : ∀ i, i < lr → (U i).size ≤ maxLen)
    (hrv : Pairs w a2 lr (fun i => .string (U i)) (fun i => .bool (B i))) :
    Calls Try.prog 10 #[.slice (some ⟨b, off, none⟩) lt cap, .slice a2 lr cap2] w fun e w' => e = .returned (.string (state lt A D lr U B)) ∧ Below w.heap.size w w' := by
  have hne : ((lt : Int) == 0) = false := by simp; omega
  have hmm := @run_makeMap Try.prog
  go_enter Try.func10, Try.ntmps10
  go_wp2
  go_loopw [5, 6, 21] (fun ap dn i wr => ∃ k : Nat, k ≤ lr ∧ i = .int .i64 k ∧ ap = .int .i64 (cnt U B true k) ∧ dn = .int .i64 (cnt U B false k) ∧ ∃ M : DataW Unit, wr.ownsMap Try.prog 9 (plainElem Try.prog 4) w.heap.size k M ∧ SeenMap M U k ∧ Below w.heap.size w wr) (fun _ _ i _ => lr - (intOf i).toNat)
  case atStart => exact ⟨0, Nat.zero_le _, rfl, rfl, rfl, .map [], World.ownsMap_made _ _ _ _, seenMap_zero U, (Below.refl _ _).alloc (Nat.le_refl _) _⟩
  case round =>
    obtain ⟨k, hk, rfl, rfl, rfl, M, hown, hsm, hbel⟩ := hrel
    have hca := cnt_bd U B true k
    have hcd := cnt_bd U B false k
    by_cases hkl : k < lr
    · rcases hrv with h0 | ⟨b2, off2, rfl, hb2, hc⟩
      · omega
      have hc0 : wr.cell? ⟨b2, off2 + k * 2, none⟩ = some (.string (U k)) := by rw [hbel.cell (p := ⟨b2, off2 + k * 2, none⟩) hb2]; exact (hc k hkl).1
      have hc1 : wr.cell? ⟨b2, off2 + k * 2 + 1, none⟩ = some (.bool (B k)) := by rw [hbel.cell (p := ⟨b2, off2 + k * 2 + 1, none⟩) hb2]; exact (hc k hkl).2
      have hkey := Go.WideMaps.keyOf_string_mk (P := Try.prog) Try.underlying9 (hU k hkl)
      have hlt1 : w.heap.size < wr.heap.size := hown.lt
      clear hc hth
      by_cases hseen : seenBy U k (U k) = true
      · have hat : M.atKey (.string (U k).data.toList) (.lit (.bool false)) = .lit (.bool true) := by rw [hsm.2, hseen]
        go_wp2_with (first | (at_lookup; refine wpList_lookup_own_bool _ rfl _ _ 46 rfl 9 4 law9 Try.underlying46 Try.underlying4 (zero4 _) w.heap.size k _ rfl (hown.alloc _) _ _ rfl hkey _ hat ?_))
        go_roundw
        case rel => exact ⟨k + 1, by omega, by go_num, by rw [cnt_seen hseen], by rw [cnt_seen hseen], M, (hown.alloc _).mono (by omega), seenMap_skip hsm hseen, hbel.alloc (by omega) _⟩
        case measure => simp [intOf]; omega
      · have hns : seenBy U k (U k) = false := by simpa using hseen
        have hat : M.atKey (.string (U k).data.toList) (.lit (.bool false)) = .lit (.bool false) := by rw [hsm.2, hns]
        have HB : Hid (B k = B k) := rfl
        have HN : Hid (seenBy U k (U k) = false) := hns
        have HSM : Hid (SeenMap M U k) := hsm
        have HC1 := hc1
        clear hseen hns hsm
        cases hBk : B k
        all_goals
          have HBK : Hid (B k = _) := hBk
          rw [hBk] at hc1
          clear hBk HC1
          go_wp2_with (first | (at_lookup; refine wpList_lookup_own_bool _ rfl _ _ 46 rfl 9 4 law9 Try.underlying46 Try.underlying4 (zero4 _) w.heap.size k _ rfl (hown.alloc _) _ _ rfl hkey _ hat ?_) | (at_mapUpdate; refine wpList_mapUpdate_own _ rfl _ _ _ 46 rfl 9 4 law9 Try.underlying46 _ w.heap.size k _ rfl (hown.alloc _) (by unfold maxLen; omega) _ _ _ rfl rfl hkey _ [] (plainElem_bool Try.underlying4 true) ?_; intro w1 hown1 hgrow1; have hcp := cell_put hgrow1 hlt1))
        all_goals have hw1 : w.heap.size ≤ (wr.alloc (Obj.cells #[Value.string (U k), Value.bool (B k)] 35)).heap.size := by simp; omega
        · go_roundw
          case rel => exact ⟨k + 1, by omega, by go_num, by rw [cnt_miss (v := true) (by rw [HBK.out]; decide)], by rw [cnt_hit (v := false) HN.out HBK.out], _, hown1, seenMap_put HSM.out, (hbel.alloc (by omega) _).grown hgrow1 (by simp; omega) (fun j hj => by cases hj; exact Nat.le_refl _)⟩
          case measure => simp [intOf]; omega
        · go_roundw
          case rel => exact ⟨k + 1, by omega, by go_num, by rw [cnt_hit (v := true) HN.out HBK.out], by rw [cnt_miss (v := false) (by rw [HBK.out]; decide)], _, hown1, seenMap_put HSM.out, (hbel.alloc (by omega) _).grown hgrow1 (by simp; omega) (fun j hj => by cases hj; exact Nat.le_refl _)⟩
          case measure => simp [intOf]; omega
    · have hkk : k = lr := by omega
      subst hkk
      have HS : Hid (state lt A D k U B = verdict A D (cnt U B true k) (cnt U B false k) lt) := state_some hlt
      have hws : w.heap.size < wr.heap.size := hown.lt
      clear hrv hU hsm hmm hown
      generalize cnt U B true k = ca at *
      generalize cnt U B false k = cd at *
      go_wp2
      go_loopw [41, 10] (fun i ok ws => ∃ j : Nat, j ≤ lt ∧ i = .int .i64 j ∧ ok = .bool (allApp A ca j) ∧ anyDeny D cd j = false ∧ Below w.heap.size w ws ∧ w.heap.size < ws.heap.size) (fun i _ _ => lt - (intOf i).toNat)
      case atStart => exact ⟨0, Nat.zero_le _, rfl, rfl, rfl, hbel, hws⟩
      case round =>
        obtain ⟨j, hj, rfl, rfl, hany, hbel2, hws2⟩ := hrel
        have HA : Hid (anyDeny D cd j = false) := hany
        clear hany
        by_cases hjl : j < lt
        · have hc0 : wr.cell? ⟨b, off + j * 2, none⟩ = some (.int .i64 (A j)) := by rw [hbel2.cell (p := ⟨b, off + j * 2, none⟩) hb]; exact (hth j hjl).1
          have hc1 : wr.cell? ⟨b, off + j * 2 + 1, none⟩ = some (.int .i64 (D j)) := by rw [hbel2.cell (p := ⟨b, off + j * 2 + 1, none⟩) hb]; exact (hth j hjl).2
          have HTH : Hid (∀ i, i < lt → w.cell? ⟨b, off + i * 2, none⟩ = some (.int .i64 (A i)) ∧ w.cell? ⟨b, off + i * 2 + 1, none⟩ = some (.int .i64 (D i))) := hth
          clear hth
          go_wp2_with (first | (go_at_call 20; refine (eff _ _ _).mono ?_; rintro e w2 ⟨rfl, hb3⟩; obtain ⟨hc3, hf3⟩ := bcell hb3))
          all_goals
            have hB : Below w.heap.size w w2 := (hbel2.alloc (by omega) _).trans (hb3.mono (by simp; omega))
            have hB1 := (hB.setCell (p := ⟨wr.heap.size, 0, none⟩) (Nat.le_of_lt hws2) (Value.int IntKind.i64 (at1 (A j)))).setCell (p := ⟨wr.heap.size, 1, none⟩) (Nat.le_of_lt hws2) (Value.int IntKind.i64 (at1 (D j)))
            have hz : w.heap.size < w2.heap.size := by have := hb3.size; simp at this; omega
          · go_ret
            exact ⟨ret_str (by rw [HS.out]; exact (verdict_denied hjl (by assumption)).symm), hB1⟩
          · go_roundw
            case rel => exact ⟨j + 1, by omega, by go_num, by rw [allApp_succ, decide_eq_false (by omega)]; simp, by rw [anyDeny_succ, HA.out, decide_eq_false (by omega)]; rfl, hB1, by simpa using hz⟩
            case measure => simp [intOf]; omega
          · go_roundw
            case rel => exact ⟨j + 1, by omega, by go_num, by rw [allApp_succ, decide_eq_true (by omega)]; simp, by rw [anyDeny_succ, HA.out, decide_eq_false (by omega)]; rfl, hB1, by simpa using hz⟩
            case measure => simp [intOf]; omega
        · have hjj : j = lt := by omega
          subst hjj
          cases hal : allApp A ca j
          all_goals
            have HAL : Hid (allApp A ca j = _) := hal
            clear hal hth
            go_wp2
            go_ret
            exact ⟨ret_str (by rw [HS.out]; first | exact (verdict_app HA.out HAL.out).symm | exact (verdict_pend HA.out HAL.out).symm), hbel2⟩
theorem own_made (w : World) : ((w.alloc (.cells #[.int .i64 0, .int .i64 0] 45)).alloc (.map #[] 0)).ownsMap (H := Unit) Try.prog 9 (plainElem Try.prog 4) (w.heap.size + 1) 0 (.map []) := by
  have := World.ownsMap_made (H := Unit) (w.alloc (.cells #[.int .i64 0, .int .i64 0] 45)) Try.prog 9 (plainElem Try.prog 4)
  rwa [show (w.alloc (.cells #[.int .i64 0, .int .i64 0] 45)).heap.size = w.heap.size + 1 by simp] at this

set_option maxHeartbeats 1000000 in
theorem rs_none (w : World) (a0 : Option Addr) (cap : Nat) (A D : Nat → Int)
    (a2 : Option Addr) (lr cap2 : Nat) (U : Nat → ByteArray) (B : Nat → Bool) (hlrm : lr ≤ 65536) (hU : ∀ i, i < lr → (U i).size ≤ maxLen)
    (hrv : Pairs w a2 lr (fun i => .string (U i)) (fun i => .bool (B i))) :
    Calls Try.prog 10 #[.slice a0 0 cap, .slice a2 lr cap2] w fun e w' => e = .returned (.string (state 0 A D lr U B)) ∧ Below w.heap.size w w' := by
  have hmm := @run_makeMap Try.prog
  have hrv0 : Pairs (w.alloc (.cells #[.int .i64 0, .int .i64 0] 45)) a2 lr (fun i => .string (U i)) (fun i => .bool (B i)) := hrv.below ((Below.refl _ _).alloc (Nat.le_refl _) _)
  have hW0 : Below w.heap.size w (w.alloc (.cells #[.int .i64 0, .int .i64 0] 45)) := (Below.refl _ _).alloc (Nat.le_refl _) _
  clear hrv
  go_enter Try.func10, Try.ntmps10
  go_wp2
  go_loopw [5, 6, 21] (fun ap dn i wr => ∃ k : Nat, k ≤ lr ∧ i = .int .i64 k ∧ ap = .int .i64 (cnt U B true k) ∧ dn = .int .i64 (cnt U B false k) ∧ ∃ M : DataW Unit, wr.ownsMap Try.prog 9 (plainElem Try.prog 4) (w.heap.size + 1) k M ∧ SeenMap M U k ∧ Below (w.heap.size + 1) (w.alloc (.cells #[.int .i64 0, .int .i64 0] 45)) wr) (fun _ _ i _ => lr - (intOf i).toNat)
  case atStart => exact ⟨0, Nat.zero_le _, rfl, rfl, rfl, .map [], own_made w, seenMap_zero U, (Below.refl _ _).alloc (by simp) _⟩
  case round =>
    obtain ⟨k, hk, rfl, rfl, rfl, M, hown, hsm, hbel⟩ := hrel
    have hca := cnt_bd U B true k
    have hcd := cnt_bd U B false k
    by_cases hkl : k < lr
    · rcases hrv0 with h0 | ⟨b2, off2, rfl, hb2, hc⟩
      · omega
      have hc0 : wr.cell? ⟨b2, off2 + k * 2, none⟩ = some (.string (U k)) := by rw [hbel.cell (p := ⟨b2, off2 + k * 2, none⟩) (by simpa using hb2)]; exact (hc k hkl).1
      have hc1 : wr.cell? ⟨b2, off2 + k * 2 + 1, none⟩ = some (.bool (B k)) := by rw [hbel.cell (p := ⟨b2, off2 + k * 2 + 1, none⟩) (by simpa using hb2)]; exact (hc k hkl).2
      have hkey := Go.WideMaps.keyOf_string_mk (P := Try.prog) Try.underlying9 (hU k hkl)
      have hlt1 : w.heap.size + 1 < wr.heap.size := hown.lt
      clear hc
      by_cases hseen : seenBy U k (U k) = true
      · have hat : M.atKey (.string (U k).data.toList) (.lit (.bool false)) = .lit (.bool true) := by rw [hsm.2, hseen]
        go_wp2_with (first | (at_lookup; refine wpList_lookup_own_bool _ rfl _ _ 46 rfl 9 4 law9 Try.underlying46 Try.underlying4 (zero4 _) (w.heap.size + 1) k _ rfl (hown.alloc _) _ _ rfl hkey _ hat ?_))
        go_roundw
        case rel => exact ⟨k + 1, by omega, by go_num, by rw [cnt_seen hseen], by rw [cnt_seen hseen], M, (hown.alloc _).mono (by omega), seenMap_skip hsm hseen, hbel.alloc (by omega) _⟩
        case measure => simp [intOf]; omega
      · have hns : seenBy U k (U k) = false := by simpa using hseen
        have hat : M.atKey (.string (U k).data.toList) (.lit (.bool false)) = .lit (.bool false) := by rw [hsm.2, hns]
        have HB : Hid (B k = B k) := rfl
        have HN : Hid (seenBy U k (U k) = false) := hns
        have HSM : Hid (SeenMap M U k) := hsm
        have HC1 := hc1
        clear hseen hns hsm
        cases hBk : B k
        all_goals
          have HBK : Hid (B k = _) := hBk
          rw [hBk] at hc1
          clear hBk HC1
          go_wp2_with (first | (at_lookup; refine wpList_lookup_own_bool _ rfl _ _ 46 rfl 9 4 law9 Try.underlying46 Try.underlying4 (zero4 _) (w.heap.size + 1) k _ rfl (hown.alloc _) _ _ rfl hkey _ hat ?_) | (at_mapUpdate; refine wpList_mapUpdate_own _ rfl _ _ _ 46 rfl 9 4 law9 Try.underlying46 _ (w.heap.size + 1) k _ rfl (hown.alloc _) (by unfold maxLen; omega) _ _ _ rfl rfl hkey _ [] (plainElem_bool Try.underlying4 true) ?_; intro w1 hown1 hgrow1; have hcp := cell_put hgrow1 hlt1))
        · go_roundw
          case rel => exact ⟨k + 1, by omega, by go_num, by rw [cnt_miss (v := true) (by rw [HBK.out]; decide)], by rw [cnt_hit (v := false) HN.out HBK.out], _, hown1, seenMap_put HSM.out, (hbel.alloc (by omega) _).grown hgrow1 (by simp; omega) (fun j hj => by cases hj; exact Nat.le_refl _)⟩
          case measure => simp [intOf]; omega
        · go_roundw
          case rel => exact ⟨k + 1, by omega, by go_num, by rw [cnt_hit (v := true) HN.out HBK.out], by rw [cnt_miss (v := false) (by rw [HBK.out]; decide)], _, hown1, seenMap_put HSM.out, (hbel.alloc (by omega) _).grown hgrow1 (by simp; omega) (fun j hj => by cases hj; exact Nat.le_refl _)⟩
          case measure => simp [intOf]; omega
    · have hkk : k = lr := by omega
      subst hkk
      have HS : Hid (state 0 A D k U B = verdict (fun _ => 0) (fun _ => 0) (cnt U B true k) (cnt U B false k) 1) := rfl
      have hws : w.heap.size + 1 < wr.heap.size := hown.lt
      clear hrv0 hU hsm hmm hown
      generalize cnt U B true k = ca at *
      generalize cnt U B false k = cd at *
      go_wp2
      go_loopw [41, 10] (fun i ok ws => ∃ j : Nat, j ≤ 1 ∧ i = .int .i64 j ∧ ok = .bool (allApp (fun _ => 0) ca j) ∧ anyDeny (fun _ => 0) cd j = false ∧ Below (w.heap.size + 1) (w.alloc (.cells #[.int .i64 0, .int .i64 0] 45)) ws ∧ w.heap.size + 1 < ws.heap.size) (fun i _ _ => 1 - (intOf i).toNat)
      case atStart => exact ⟨0, Nat.zero_le _, rfl, rfl, rfl, hbel, hws⟩
      case round =>
        obtain ⟨j, hj, rfl, rfl, hany, hbel2, hws2⟩ := hrel
        have HA : Hid (anyDeny (fun _ => 0) cd j = false) := hany
        clear hany
        by_cases hjl : j < 1
        · obtain rfl : j = 0 := by omega
          have hc0 : wr.cell? ⟨w.heap.size, 0, none⟩ = some (.int .i64 0) := by rw [hbel2.cell (p := ⟨w.heap.size, 0, none⟩) (by simp)]; go_simp
          have hc1 : wr.cell? ⟨w.heap.size, 1, none⟩ = some (.int .i64 0) := by rw [hbel2.cell (p := ⟨w.heap.size, 1, none⟩) (by simp)]; go_simp
          go_wp2_with (first | (go_at_call 20; refine (eff _ _ _).mono ?_; rintro e w2 ⟨rfl, hb3⟩; obtain ⟨hc3, hf3⟩ := bcell hb3))
          all_goals
            have hB : Below (w.heap.size + 1) (w.alloc (.cells #[.int .i64 0, .int .i64 0] 45)) w2 := (hbel2.alloc (by omega) _).trans (hb3.mono (by simp; omega))
            have hB1 := (hB.setCell (p := ⟨wr.heap.size, 0, none⟩) (Nat.le_of_lt hws2) (Value.int IntKind.i64 (at1 0))).setCell (p := ⟨wr.heap.size, 1, none⟩) (Nat.le_of_lt hws2) (Value.int IntKind.i64 (at1 0))
            have hz : w.heap.size + 1 < w2.heap.size := by have := hb3.size; simp at this; omega
          · go_ret
            exact ⟨ret_str (by rw [HS.out]; exact (verdict_denied hjl (by assumption)).symm), hW0.trans (hB1.mono (by omega))⟩
          · go_roundw
            case rel => exact ⟨1, by omega, by go_num, by rw [allApp_succ, decide_eq_false (by omega)]; simp, by rw [anyDeny_succ, HA.out, decide_eq_false (by omega)]; rfl, hB1, by simpa using hz⟩
            case measure => simp [intOf]
          · go_roundw
            case rel => exact ⟨1, by omega, by go_num, by rw [allApp_succ, decide_eq_true (by omega)]; simp, by rw [anyDeny_succ, HA.out, decide_eq_false (by omega)]; rfl, hB1, by simpa using hz⟩
            case measure => simp [intOf]
        · have hjj : j = 1 := by omega
          subst hjj
          cases hal : allApp (fun _ => 0) ca 1
          all_goals
            have HAL : Hid (allApp (fun _ => 0) ca 1 = _) := hal
            clear hal
            go_wp2
            go_ret
            exact ⟨ret_str (by rw [HS.out]; first | exact (verdict_app HA.out HAL.out).symm | exact (verdict_pend HA.out HAL.out).symm), hW0.trans (hbel2.mono (by omega))⟩

/-- 'RequestState' gives 'state', and writes nothing that was there -/
theorem rs_any (w : World) (a : Option Addr) (lt cap : Nat) (A D : Nat → Int) (hltm : lt ≤ 65536) (hth : Pairs w a lt (fun i => .int .i64 (A i)) (fun i => .int .i64 (D i)))
    (a2 : Option Addr) (lr cap2 : Nat) (U : Nat → ByteArray) (B : Nat → Bool) (hlrm : lr ≤ 65536) (hU : ∀ i, i < lr → (U i).size ≤ maxLen)
    (hrv : Pairs w a2 lr (fun i => .string (U i)) (fun i => .bool (B i))) :
    Calls Try.prog 10 #[.slice a lt cap, .slice a2 lr cap2] w fun e w' => e = .returned (.string (state lt A D lr U B)) ∧ Below w.heap.size w w' := by
  rcases Nat.eq_zero_or_pos lt with h | h
  · subst h
    exact rs_none w a cap A D a2 lr cap2 U B hlrm hU hrv
  · rcases hth with h0 | ⟨b, off, rfl, hb, hc⟩
    · omega
    · exact rs_some w b off lt cap A D h hltm hb hc a2 lr cap2 U B hlrm hU hrv
end Go.Proofs.Qxb6600194a.Req
