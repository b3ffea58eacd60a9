import Derived.Test.Qxb6600194aRows
import Derived.WalkKit
import Derived.ProofKit
import Derived.OpenShut
import Derived.ShutString
import Derived.Test.Qxb6600194aRt
namespace Go.Proofs.Qxb6600194a.fnDecisionStringRoundTrip
open Go.ChangeShapes Go.WideShapes Go.ChangeAt Go.RowKit
open Go.ChangeMaps (open_string shut_string)
open Go.Proofs.Qxb6600194a.Dec
set_option linter.unusedVariables false      -- a walk need not use every 'w<i>' (that an integer argument fits its kind)

theorem own : ownKnob Try.prog.godebug = none := by kernel_rfl

/-! ### STEP 1: the walk -/
theorem bytes_yes (a0 : Bool) (a1 : ByteArray) (w : World) (h1 : a1.size ≤ 1048576) :
    Calls Try.prog 16 #[.bool a0, .string a1] w fun e w' => e = .returned (.bool true) ∧ w' = w := by
  go_enter Try.func16, Try.ntmps16
  go_wp2
  go_ret
  exact ⟨rfl, rfl⟩

theorem bytes_no (a0 : Bool) (a1 : ByteArray) (w : World) (w1 : a1.size ≤ maxLen) (h1 : 1048576 < a1.size) :
    Calls Try.prog 16 #[.bool a0, .string a1] w fun e w' => e = .returned (.bool false) ∧ w' = w := by
  unfold maxLen at w1
  go_enter Try.func16, Try.ntmps16
  go_wp2
  go_ret
  exact ⟨rfl, rfl⟩

theorem grown_drewN {W w' : World} (h : Grown W w') (n : Nat) : Grown W (w'.drewN n) := h

set_option maxHeartbeats 1000000 in
theorem walk (a0 : Bool) (a1 : ByteArray) (w1 : a1.size ≤ maxLen) (w : World) :
    Calls Try.prog 6 #[.bool a0, .string a1] w fun e w' => e = .returned (.bool true) ∧ Grown w w' := by
  by_cases hs : a1.size ≤ 1048576
  · have K1 : Hid (∀ w, Calls Try.prog 18 #[.agg #[.bool a0, .string a1]] w fun e w' => e = .returned (.string (txt a0 a1)) ∧ w' = w.alloc (.cells #[.bool a0, .string a1] 39)) := fun w => string_any a0 a1 w hs
    have K2 : Hid (∀ w, Calls Try.prog 17 #[.string (txt a0 a1)] w fun e w' => e = .returned (.tuple #[.bool a0, .string a1, .bool true]) ∧ ∃ n, w' = w.drewN n) := fun w => parse_txt a0 a1 w hs
    generalize txt a0 a1 = T1 at K1 K2
    go_enter Try.func6, Try.ntmps6
    go_wp2_with (first | (go_at_call 16; refine (bytes_yes _ _ _ hs).mono ?_; rintro e w' ⟨rfl, rfl⟩) | (go_at_call 18; refine (K1.out _).mono ?_; rintro e w' ⟨rfl, rfl⟩) | (go_at_call 17; refine (K2.out _).mono ?_; rintro e w' ⟨rfl, n, rfl⟩))
    go_ret
    exact ⟨rfl, by repeat (first | exact Grown.refl _ | apply Grown.drew | apply grown_drewN | apply Grown.alloc)⟩
  · go_enter Try.func6, Try.ntmps6
    go_wp2_with (first | (go_at_call 16; refine (bytes_no _ _ _ w1 (by omega)).mono ?_; rintro e w' ⟨rfl, rfl⟩) )
    go_ret
    exact ⟨rfl, by repeat (first | exact Grown.refl _ | apply Grown.drew | apply Grown.alloc)⟩

/-! ### THE ROW's STEP: WRITTEN OUT: LEAVE IT -/
set_option maxRecDepth 100000 in
theorem lifted (os : Os) (started : os.Started) (H : Type) (enc : TypeId × Value → H) :
    ReturnsInHanded {} Try.checked os 6 .any (Rows.fnDecisionStringRoundTripSpec.pre6 enc Try.prog Try.f6 Rows.fnDecisionStringRoundTripRow.domain false) (Rows.fnDecisionStringRoundTripSpec.post enc Try.prog Try.f6 false true false false) := by
  refine returnsInHanded_of_change (C := Try.checked) own started (by kernel_rfl) Try.func6
    (ChangeSpec.witness6 (enc := enc) (C := Try.checked) false ⟨#[], #[.bool false, .string ByteArray.empty], []⟩ 8 (by kernel_rfl) (by kernel_rfl) (by kernel_rfl) (by kernel_rfl)) ?_
  intro W base args ds gs before hval0 hW hcnd _
  have hval : ∀ (j : Nat) t v, Try.f6.params[j]? = some t → args[j]? = some v → Value.okWide Try.prog W .any base t v := hval0
  have hW' := hW
  obtain ⟨p, q, hA0, hV, rfl, hfz, hnd⟩ := hW
  have hA : DataW.TrodAll enc Try.prog W 0 (fun _ => true) true Try.f6.params.toList args.toList ds p := hA0
  rw [Try.params6] at hA hval
  obtain ⟨v0, vs0, d0, ds0, p0, q0, hargs, rfl, rfl, h0, r0⟩ := trodAll_cons hA
  obtain ⟨v1, vs1, d1, ds1, p1, q1, rfl, rfl, rfl, h1, r1⟩ := trodAll_cons r0
  obtain ⟨rfl, rfl, rfl⟩ := trodAll_nil r1
  obtain rfl : args = #[v0, v1] := by cases args; simp_all
  obtain ⟨rfl, rfl⟩ := trodVars_none hV
  obtain ⟨a0, rfl, rfl, rfl⟩ := open_bool Try.underlying4 (hval 0 4 v0 rfl rfl) h0
  obtain ⟨a1, rfl, rfl, rfl, w1⟩ := open_string Try.underlying9 (hval 1 9 v1 rfl rfl) h1
  clear hA0 hval0
  simp only [List.append_nil] at hW'
  refine (walk a0 a1 w1 W).mono fun e W' ⟨he, hg⟩ => ?_
  subst he
  exact ⟨_, rfl, post_of_same (pa := []) (pv := []) hW' (fun _ _ _ => (trodAll_cons_mk (shut_bool Try.underlying4 _) trodAll_mk0)) (fun sp _ => (trodAll_cons_mk (shut_bool Try.underlying4 _) (trodAll_cons_mk (shut_string Try.underlying9 w1) trodAll_mk0))) (fun _ _ => rfl) rfl
    (hg.frame _) hg.2.1 (ok_one (by kernel_rfl) rfl (okWide_bool_mk Try.underlying4 _))⟩

theorem over : Rows.fnDecisionStringRoundTripRow.holds Try.pinned (OpenSpec.ofChange Rows.fnDecisionStringRoundTripSpec) :=
  OpenClaim.holds_of_wide 6 Try.f6 rfl rfl rfl rfl rfl rfl rfl ⟨rfl, rfl, rfl, rfl, rfl⟩ rfl rfl rfl rfl rfl (by kernel_rfl) Try.func6 (by kernel_rfl)
    (of_decide_eq_true (by kernel_rfl)) (by unfold Func.isWrapper; first | (rw [if_pos (by decide +kernel)]; kernel_rfl) | (rw [if_neg (by decide +kernel)]; exact ⟨rfl, rfl⟩))
    (fun os started H enc _ => lifted os started H enc)

/-- ████ THE STATEMENT ████ -/
theorem proved : Rows.FnDecisionStringRoundTripSaid :=
  over
end Go.Proofs.Qxb6600194a.fnDecisionStringRoundTrip
