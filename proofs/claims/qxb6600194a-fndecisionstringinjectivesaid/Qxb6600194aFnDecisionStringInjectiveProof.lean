import Derived.Test.Qxb6600194aRows
import Derived.WalkKit
import Derived.ProofKit
import Derived.OpenShut
import Derived.ShutString
import Derived.Test.Qxb6600194aDec
namespace Go.Proofs.Qxb6600194a.fnDecisionStringInjective
open Go.ChangeShapes Go.WideShapes Go.ChangeAt Go.RowKit
open Go.ChangeMaps (open_string shut_string)
open Go.Proofs.Qxb6600194a.Dec
set_option linter.unusedVariables false      -- a walk need not use every 'w<i>' (that an integer argument fits its kind)

theorem own : ownKnob Try.prog.godebug = none := by kernel_rfl

/-! ### STEP 1: the walk -/
theorem bytes_inj (a0 : Bool) (a1 : ByteArray) (a2 : Bool) (a3 : ByteArray) (w : World) (h1 : a1.size ≤ 1048576) (h3 : a3.size ≤ 1048576) (hs : a1.size + a3.size ≤ 1048576) :
    Calls Try.prog 19 #[.bool a0, .string a1, .bool a2, .string a3] w fun e w' => e = .returned (.bool true) ∧ w' = w := by
  go_enter Try.func19, Try.ntmps19
  go_wp2
  go_ret
  exact ⟨rfl, rfl⟩

theorem bytes_inj_no (a0 : Bool) (a1 : ByteArray) (a2 : Bool) (a3 : ByteArray) (w : World) (w1 : a1.size ≤ maxLen) (w3 : a3.size ≤ maxLen) (hs : 1048576 < a1.size + a3.size) :
    Calls Try.prog 19 #[.bool a0, .string a1, .bool a2, .string a3] w fun e w' => e = .returned (.bool false) ∧ w' = w := by
  unfold maxLen at w1 w3
  go_enter Try.func19, Try.ntmps19
  go_wp2
  all_goals
    go_ret
    exact ⟨rfl, rfl⟩

theorem txt_inj (a0 : Bool) (a1 : ByteArray) (a2 : Bool) (a3 : ByteArray) :
    ((txt a0 a1).toList == (txt a2 a3).toList) = (a0 == a2 && a1.toList == a3.toList) := by
  unfold txt
  generalize h1 : a1.toList = l1
  generalize h3 : a3.toList = l3
  rw [Bool.eq_iff_iff]
  cases a0 <;> cases a2 <;> cases l1 <;> cases l3 <;> simp [toList_app, pa_l, pd_l, pn_l, h1, h3]

set_option maxHeartbeats 4000000 in
theorem walk (a0 : Bool) (a1 : ByteArray) (a2 : Bool) (a3 : ByteArray) (w1 : a1.size ≤ maxLen) (w3 : a3.size ≤ maxLen) (w : World) :
    Calls Try.prog 7 #[.bool a0, .string a1, .bool a2, .string a3] w fun e w' => e = .returned (.bool true) ∧ Grown w w' := by
  by_cases hs : a1.size + a3.size ≤ 1048576
  · have h1 : a1.size ≤ 1048576 := by omega
    have h3 : a3.size ≤ 1048576 := by omega
    have ht := txt_inj a0 a1 a2 a3
    have K1 : Hid (∀ w, Calls Try.prog 18 #[.agg #[.bool a0, .string a1]] w fun e w' => e = .returned (.string (txt a0 a1)) ∧ w' = w.alloc (.cells #[.bool a0, .string a1] 39)) := fun w => string_any a0 a1 w h1
    have K2 : Hid (∀ w, Calls Try.prog 18 #[.agg #[.bool a2, .string a3]] w fun e w' => e = .returned (.string (txt a2 a3)) ∧ w' = w.alloc (.cells #[.bool a2, .string a3] 39)) := fun w => string_any a2 a3 w h3
    generalize txt a0 a1 = T1 at ht K1
    generalize txt a2 a3 = T2 at ht K2
    by_cases h02 : a0 = a2
    · subst h02
      simp only [Bool.true_and, beq_self_eq_true] at ht
      go_enter Try.func7, Try.ntmps7
      go_wp2_with (first | (go_at_call 19; refine (bytes_inj _ _ _ _ _ h1 h3 hs).mono ?_; rintro e w' ⟨rfl, rfl⟩) )
      go_region_with (first | (go_at_call_of 18 (Value.string a1); refine (K1.out _).mono ?_; rintro e w' ⟨rfl, rfl⟩) | (go_at_call_of 18 (Value.string a3); refine (K2.out _).mono ?_; rintro e w' ⟨rfl, rfl⟩))
      all_goals
        go_wp2
        go_ret
        exact ⟨rfl, by repeat (first | exact Grown.refl _ | apply Grown.drew | apply Grown.alloc)⟩
    · have hb : (a0 == a2) = false := by simp [h02]
      rw [hb, Bool.false_and] at ht
      go_enter Try.func7, Try.ntmps7
      go_wp2_with (first | (go_at_call 19; refine (bytes_inj _ _ _ _ _ h1 h3 hs).mono ?_; rintro e w' ⟨rfl, rfl⟩) )
      go_region_with (first | (go_at_call_of 18 (Value.string a1); refine (K1.out _).mono ?_; rintro e w' ⟨rfl, rfl⟩) | (go_at_call_of 18 (Value.string a3); refine (K2.out _).mono ?_; rintro e w' ⟨rfl, rfl⟩))
      all_goals
        go_wp2
        go_ret
        exact ⟨rfl, by repeat (first | exact Grown.refl _ | apply Grown.drew | apply Grown.alloc)⟩
  · go_enter Try.func7, Try.ntmps7
    go_wp2_with (first | (go_at_call 19; refine (bytes_inj_no _ _ _ _ _ w1 w3 (by omega)).mono ?_; rintro e w' ⟨rfl, rfl⟩) )
    go_ret
    exact ⟨rfl, by repeat (first | exact Grown.refl _ | apply Grown.drew | apply Grown.alloc)⟩

/-! ### THE ROW's STEP: WRITTEN OUT: LEAVE IT -/
set_option maxRecDepth 100000 in
theorem lifted (os : Os) (started : os.Started) (H : Type) (enc : TypeId × Value → H) :
    ReturnsInHanded {} Try.checked os 7 .any (Rows.fnDecisionStringInjectiveSpec.pre6 enc Try.prog Try.f7 Rows.fnDecisionStringInjectiveRow.domain false) (Rows.fnDecisionStringInjectiveSpec.post enc Try.prog Try.f7 false true false false) := by
  refine returnsInHanded_of_change (C := Try.checked) own started (by kernel_rfl) Try.func7
    (ChangeSpec.witness6 (enc := enc) (C := Try.checked) false ⟨#[], #[.bool false, .string ByteArray.empty, .bool false, .string ByteArray.empty], []⟩ 8 (by kernel_rfl) (by kernel_rfl) (by kernel_rfl) (by kernel_rfl)) ?_
  intro W base args ds gs before hval0 hW hcnd _
  have hval : ∀ (j : Nat) t v, Try.f7.params[j]? = some t → args[j]? = some v → Value.okWide Try.prog W .any base t v := hval0
  have hW' := hW
  obtain ⟨p, q, hA0, hV, rfl, hfz, hnd⟩ := hW
  have hA : DataW.TrodAll enc Try.prog W 0 (fun _ => true) true Try.f7.params.toList args.toList ds p := hA0
  rw [Try.params7] at hA hval
  obtain ⟨v0, vs0, d0, ds0, p0, q0, hargs, rfl, rfl, h0, r0⟩ := trodAll_cons hA
  obtain ⟨v1, vs1, d1, ds1, p1, q1, rfl, rfl, rfl, h1, r1⟩ := trodAll_cons r0
  obtain ⟨v2, vs2, d2, ds2, p2, q2, rfl, rfl, rfl, h2, r2⟩ := trodAll_cons r1
  obtain ⟨v3, vs3, d3, ds3, p3, q3, rfl, rfl, rfl, h3, r3⟩ := trodAll_cons r2
  obtain ⟨rfl, rfl, rfl⟩ := trodAll_nil r3
  obtain rfl : args = #[v0, v1, v2, v3] := by cases args; simp_all
  obtain ⟨rfl, rfl⟩ := trodVars_none hV
  obtain ⟨a0, rfl, rfl, rfl⟩ := open_bool Try.underlying4 (hval 0 4 v0 rfl rfl) h0
  obtain ⟨a1, rfl, rfl, rfl, w1⟩ := open_string Try.underlying9 (hval 1 9 v1 rfl rfl) h1
  obtain ⟨a2, rfl, rfl, rfl⟩ := open_bool Try.underlying4 (hval 2 4 v2 rfl rfl) h2
  obtain ⟨a3, rfl, rfl, rfl, w3⟩ := open_string Try.underlying9 (hval 3 9 v3 rfl rfl) h3
  clear hA0 hval0
  simp only [List.append_nil] at hW'
  refine (walk a0 a1 a2 a3 w1 w3 W).mono fun e W' ⟨he, hg⟩ => ?_
  subst he
  exact ⟨_, rfl, post_of_same (pa := []) (pv := []) hW' (fun _ _ _ => (trodAll_cons_mk (shut_bool Try.underlying4 _) trodAll_mk0)) (fun sp _ => (trodAll_cons_mk (shut_bool Try.underlying4 _) (trodAll_cons_mk (shut_string Try.underlying9 w1) (trodAll_cons_mk (shut_bool Try.underlying4 _) (trodAll_cons_mk (shut_string Try.underlying9 w3) trodAll_mk0))))) (fun _ _ => rfl) rfl
    (hg.frame _) hg.2.1 (ok_one (by kernel_rfl) rfl (okWide_bool_mk Try.underlying4 _))⟩

theorem over : Rows.fnDecisionStringInjectiveRow.holds Try.pinned (OpenSpec.ofChange Rows.fnDecisionStringInjectiveSpec) :=
  OpenClaim.holds_of_wide 7 Try.f7 rfl rfl rfl rfl rfl rfl rfl ⟨rfl, rfl, rfl, rfl, rfl⟩ rfl rfl rfl rfl rfl (by kernel_rfl) Try.func7 (by kernel_rfl)
    (of_decide_eq_true (by kernel_rfl)) (by unfold Func.isWrapper; first | (rw [if_pos (by decide +kernel)]; kernel_rfl) | (rw [if_neg (by decide +kernel)]; exact ⟨rfl, rfl⟩))
    (fun os started H enc _ => lifted os started H enc)

/-- ████ THE STATEMENT ████ -/
theorem proved : Rows.FnDecisionStringInjectiveSaid :=
  over
end Go.Proofs.Qxb6600194a.fnDecisionStringInjective
