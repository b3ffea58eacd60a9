import Derived.Test.Qxb6601363aRows
import Derived.WalkKit
import Derived.ProofKit
import Derived.OpenShut
import Derived.ShutString
import Derived.Test.Qxb6601363aUtfC
namespace Go.Proofs.Qxb6601363a.fnInvalidSequenceLenIsMaximalSubpart
open Go.ChangeShapes Go.WideShapes Go.ChangeAt Go.RowKit
open Go.ChangeMaps (open_string shut_string)
open Go.Proofs.Qxb6601363a.Utf
set_option linter.unusedVariables false      -- a walk need not use every 'w<i>' (that an integer argument fits its kind)

theorem own : ownKnob Try.prog.godebug = none := by kernel_rfl

/-! ### STEP 1: the walk -/
theorem bytes_yes (a0 : ByteArray) (w : World) (h1 : a0.size ≤ 1048576) :
    Calls Try.prog 20 #[.string a0] w fun e w' => e = .returned (.bool true) ∧ w' = w := by
  go_enter Try.func20, Try.ntmps20
  go_wp2
  go_ret
  exact ⟨rfl, rfl⟩

theorem bytes_no (a0 : ByteArray) (w : World) (w1 : a0.size ≤ maxLen) (h1 : 1048576 < a0.size) :
    Calls Try.prog 20 #[.string a0] w fun e w' => e = .returned (.bool false) ∧ w' = w := by
  unfold maxLen at w1
  go_enter Try.func20, Try.ntmps20
  go_wp2
  go_ret
  exact ⟨rfl, rfl⟩

set_option maxHeartbeats 1000000 in
theorem walk (a0 : ByteArray) (w0 : a0.size ≤ maxLen) (w : World) :
    Calls Try.prog 7 #[.string a0] w fun e w' => e = .returned (.bool true) ∧ Grown w w' := by
  by_cases hs : a0.size ≤ 1048576
  · by_cases h0 : a0.size = 0
    · have hz : ((a0.size : Int) == 0) = true := beq_iff_eq.2 (by omega)
      go_enter Try.func7, Try.ntmps7
      go_wp2_with (first | (go_at_call 20; refine (bytes_yes _ _ hs).mono ?_; rintro e w' ⟨rfl, rfl⟩))
      go_ret
      exact ⟨rfl, Grown.refl _⟩
    · have hz : ((a0.size : Int) == 0) = false := beq_eq_false_iff_ne.2 (by omega)
      go_enter Try.func7, Try.ntmps7
      go_wp2_with (first | (go_at_call 20; refine (bytes_yes _ _ hs).mono ?_; rintro e w' ⟨rfl, rfl⟩))
      refine (startsW _ _).mono ?_
      rintro e w1 ⟨⟨bb, rfl, hst⟩, rfl⟩
      have HST : Hid (bb = true ↔ starts a0) := hst
      clear hst
      cases bb
      · have HNS : Hid (¬ starts a0) := fun h => absurd (HST.out.2 h) (by decide)
        go_wp2_with fail
        refine (invalidZ _ _ (by omega) (by omega)).mono ?_
        rintro e w2 ⟨⟨n, rfl, hn⟩, rfl⟩
        have HC : Hid (InvLen a0 n) := hn
        clear hn
        go_wp2_with fail
        refine (modelW _ _ (by omega) (by omega)).mono ?_
        rintro e w3 ⟨⟨m, rfl, hm⟩, rfl⟩
        obtain rfl := inv_best HC.out HNS.out hm
        clear hm
        go_wp2
        go_ret
        exact ⟨rfl, Grown.refl _⟩
      · go_wp2
        go_ret
        exact ⟨rfl, Grown.refl _⟩
  · go_enter Try.func7, Try.ntmps7
    go_wp2_with (first | (go_at_call 20; refine (bytes_no _ _ w0 (by omega)).mono ?_; rintro e w' ⟨rfl, rfl⟩))
    go_ret
    exact ⟨rfl, Grown.refl _⟩

/-! ### THE ROW's STEP: WRITTEN OUT: LEAVE IT -/
set_option maxRecDepth 100000 in
theorem lifted (os : Os) (started : os.Started) (H : Type) (enc : TypeId × Value → H) :
    ReturnsInHanded {} Try.checked os 7 .any (Rows.fnInvalidSequenceLenIsMaximalSubpartSpec.pre6 enc Try.prog Try.f7 Rows.fnInvalidSequenceLenIsMaximalSubpartRow.domain false) (Rows.fnInvalidSequenceLenIsMaximalSubpartSpec.post enc Try.prog Try.f7 false true false false) := by
  refine returnsInHanded_of_change (C := Try.checked) own started (by kernel_rfl) Try.func7
    (ChangeSpec.witness6 (enc := enc) (C := Try.checked) false ⟨#[], #[.string ByteArray.empty], []⟩ 8 (by kernel_rfl) (by kernel_rfl) (by kernel_rfl) (by kernel_rfl)) ?_
  intro W base args ds gs before hval0 hW hcnd _
  have hval : ∀ (j : Nat) t v, Try.f7.params[j]? = some t → args[j]? = some v → Value.okWide Try.prog W .any base t v := hval0
  have hW' := hW
  obtain ⟨p, q, hA0, hV, rfl, hfz, hnd⟩ := hW
  have hA : DataW.TrodAll enc Try.prog W 0 (fun _ => true) true Try.f7.params.toList args.toList ds p := hA0
  rw [Try.params7] at hA hval
  obtain ⟨v0, vs0, d0, ds0, p0, q0, hargs, rfl, rfl, h0, r0⟩ := trodAll_cons hA
  obtain ⟨rfl, rfl, rfl⟩ := trodAll_nil r0
  obtain rfl : args = #[v0] := by cases args; simp_all
  obtain ⟨rfl, rfl⟩ := trodVars_none hV
  obtain ⟨a0, rfl, rfl, rfl, w0⟩ := open_string Try.underlying9 (hval 0 9 v0 rfl rfl) h0
  clear hA0 hval0
  simp only [List.append_nil] at hW'
  refine (walk a0 w0 W).mono fun e W' ⟨he, hg⟩ => ?_
  subst he
  exact ⟨_, rfl, post_of_same (pa := []) (pv := []) hW' (fun _ _ _ => (trodAll_cons_mk (shut_bool Try.underlying4 _) trodAll_mk0)) (fun sp _ => (trodAll_cons_mk (shut_string Try.underlying9 w0) trodAll_mk0)) (fun _ _ => rfl) rfl
    (hg.frame _) hg.2.1 (ok_one (by kernel_rfl) rfl (okWide_bool_mk Try.underlying4 _))⟩

theorem over : Rows.fnInvalidSequenceLenIsMaximalSubpartRow.holds Try.pinned (OpenSpec.ofChange Rows.fnInvalidSequenceLenIsMaximalSubpartSpec) :=
  OpenClaim.holds_of_wide 7 Try.f7 rfl rfl rfl rfl rfl rfl rfl ⟨rfl, rfl, rfl, rfl, rfl⟩ rfl rfl rfl rfl rfl (by kernel_rfl) Try.func7 (by kernel_rfl)
    (of_decide_eq_true (by kernel_rfl)) (by unfold Func.isWrapper; first | (rw [if_pos (by decide +kernel)]; kernel_rfl) | (rw [if_neg (by decide +kernel)]; exact ⟨rfl, rfl⟩))
    (fun os started H enc _ => lifted os started H enc)

/-- ████ THE STATEMENT ████ -/
theorem proved : Rows.FnInvalidSequenceLenIsMaximalSubpartSaid :=
  over
end Go.Proofs.Qxb6601363a.fnInvalidSequenceLenIsMaximalSubpart
