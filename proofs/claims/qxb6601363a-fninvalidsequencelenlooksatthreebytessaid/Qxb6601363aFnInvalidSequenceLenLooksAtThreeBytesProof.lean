import Derived.Test.Qxb6601363aRows
import Derived.WalkKit
import Derived.ProofKit
import Derived.OpenShut
import Derived.ShutString
import Derived.Test.Qxb6601363aUtfB
namespace Go.Proofs.Qxb6601363a.fnInvalidSequenceLenLooksAtThreeBytes
open Go.ChangeShapes Go.WideShapes Go.ChangeAt Go.RowKit
open Go.ChangeMaps (open_string shut_string)
open Go.Proofs.Qxb6601363a.Utf
set_option linter.unusedVariables false      -- a walk need not use every 'w<i>' (that an integer argument fits its kind)

theorem own : ownKnob Try.prog.godebug = none := by kernel_rfl

/-! ### STEP 1: the walk -/
theorem inv_three {s : ByteArray} {n : Nat} (h : InvLen s n) (hns : ¬ starts s) : n ≤ 3 := by
  obtain ⟨n1, n2, n3, n4⟩ := h
  rcases Nat.lt_or_ge 3 n with hn | hn
  · exfalso
    by_cases ho : padAt s 0 < 194 ∨ 244 < padAt s 0
    · have := n3 ho; omega
    · obtain ⟨ha, _⟩ := n4 (by omega)
      have h1 := ha 1 (by omega) (by omega)
      have h2 := ha 2 (by omega) (by omega)
      have h3 := ha 3 (by omega) (by omega)
      unfold okAt at h1 h2 h3
      apply hns
      by_cases c2 : padAt s 0 ≤ 223
      · exact ⟨2, by omega, by omega, by omega, by unfold encAt encP; omega⟩
      · by_cases c3 : padAt s 0 ≤ 239
        · exact ⟨3, by omega, by omega, by omega, by unfold encAt encP; omega⟩
        · exact ⟨4, by omega, by omega, by omega, by unfold encAt encP; omega⟩
  · exact hn

theorem inv_cut {s : ByteArray} {n : Nat} (h : InvLen s n) (hns : ¬ starts s) (hz : 3 < s.size) : InvLen (s.extract 0 3) n := by
  have h3 := inv_three h hns
  obtain ⟨n1, n2, n3, n4⟩ := h
  have hs := size_cut s 3 (by omega)
  have e0 := padAt_cut s 3 0 (by omega) (by omega)
  refine ⟨n1, by omega, fun h => n3 (by rwa [e0] at h), fun h => ?_⟩
  rw [e0] at h ⊢
  obtain ⟨ha, hb⟩ := n4 h
  refine ⟨fun j h1 h2 => ?_, fun hl => ?_⟩
  · rw [padAt_cut s 3 j (by omega) (by omega)]; exact ha j h1 h2
  · rw [padAt_cut s 3 n (by omega) (by omega)]; exact hb (by omega)

theorem bytes_yes (a0 : ByteArray) (w : World) (h1 : a0.size ≤ 1048576) :
    Calls Try.prog 24 #[.string a0] w fun e w' => e = .returned (.bool true) ∧ w' = w := by
  go_enter Try.func24, Try.ntmps24
  go_wp2
  go_ret
  exact ⟨rfl, rfl⟩

theorem bytes_no (a0 : ByteArray) (w : World) (w1 : a0.size ≤ maxLen) (h1 : 1048576 < a0.size) :
    Calls Try.prog 24 #[.string a0] w fun e w' => e = .returned (.bool false) ∧ w' = w := by
  unfold maxLen at w1
  go_enter Try.func24, Try.ntmps24
  go_wp2
  go_ret
  exact ⟨rfl, rfl⟩

set_option maxHeartbeats 1000000 in
theorem walk (a0 : ByteArray) (w0 : a0.size ≤ maxLen) (w : World) :
    Calls Try.prog 8 #[.string a0] w fun e w' => e = .returned (.bool true) ∧ Grown w w' := by
  by_cases hs : a0.size ≤ 1048576
  · by_cases h0 : a0.size = 0
    · have hz : ((a0.size : Int) == 0) = true := beq_iff_eq.2 (by omega)
      go_enter Try.func8, Try.ntmps8
      go_wp2_with (first | (go_at_call 24; refine (bytes_yes _ _ hs).mono ?_; rintro e w' ⟨rfl, rfl⟩))
      go_ret
      exact ⟨rfl, Grown.refl _⟩
    · have hz : ((a0.size : Int) == 0) = false := beq_eq_false_iff_ne.2 (by omega)
      go_enter Try.func8, Try.ntmps8
      go_wp2_with (first | (go_at_call 24; refine (bytes_yes _ _ hs).mono ?_; rintro e w' ⟨rfl, rfl⟩))
      refine (startsW _ _).mono ?_
      rintro e w1 ⟨⟨bb, rfl, hst⟩, rfl⟩
      have HST : Hid (bb = true ↔ starts a0) := hst
      clear hst
      cases bb
      · have HNS : Hid (¬ starts a0) := fun h => absurd (HST.out.2 h) (by decide)
        by_cases h3 : 3 < a0.size
        · go_wp2_with fail
          refine (invalidZ _ _ (by omega) (by omega)).mono ?_
          rintro e w2 ⟨⟨n, rfl, hn⟩, rfl⟩
          have hn3 := inv_three hn HNS.out
          have hn1 := hn.1
          have HC : Hid (InvLen (a0.extract 0 3) n) := inv_cut hn HNS.out h3
          clear hn
          go_wp2_with fail
          refine (invalidZ _ _ (by rw [size_cut a0 3 (by omega)]; omega) (by rw [size_cut a0 3 (by omega)]; omega)).mono ?_
          rintro e w3 ⟨⟨m, rfl, hm⟩, rfl⟩
          obtain rfl := inv_unique HC.out hm
          clear hm
          go_wp2
          go_ret
          exact ⟨rfl, Grown.refl _⟩
        · go_wp2_with fail
          refine (invalidZ _ _ (by omega) (by omega)).mono ?_
          rintro e w2 ⟨⟨n, rfl, hn⟩, rfl⟩
          have hn3 := hn.2.1
          have hn1 := hn.1
          have HC : Hid (InvLen a0 n) := hn
          clear hn
          go_wp2_with fail
          refine (invalidZ _ _ (by omega) (by omega)).mono ?_
          rintro e w3 ⟨⟨m, rfl, hm⟩, rfl⟩
          obtain rfl := inv_unique HC.out hm
          clear hm
          go_wp2
          go_ret
          exact ⟨rfl, Grown.refl _⟩
      · go_wp2
        go_ret
        exact ⟨rfl, Grown.refl _⟩
  · go_enter Try.func8, Try.ntmps8
    go_wp2_with (first | (go_at_call 24; refine (bytes_no _ _ w0 (by omega)).mono ?_; rintro e w' ⟨rfl, rfl⟩))
    go_ret
    exact ⟨rfl, Grown.refl _⟩

/-! ### THE ROW's STEP: WRITTEN OUT: LEAVE IT -/
set_option maxRecDepth 100000 in
theorem lifted (os : Os) (started : os.Started) (H : Type) (enc : TypeId × Value → H) :
    ReturnsInHanded {} Try.checked os 8 .any (Rows.fnInvalidSequenceLenLooksAtThreeBytesSpec.pre6 enc Try.prog Try.f8 Rows.fnInvalidSequenceLenLooksAtThreeBytesRow.domain false) (Rows.fnInvalidSequenceLenLooksAtThreeBytesSpec.post enc Try.prog Try.f8 false true false false) := by
  refine returnsInHanded_of_change (C := Try.checked) own started (by kernel_rfl) Try.func8
    (ChangeSpec.witness6 (enc := enc) (C := Try.checked) false ⟨#[], #[.string ByteArray.empty], []⟩ 8 (by kernel_rfl) (by kernel_rfl) (by kernel_rfl) (by kernel_rfl)) ?_
  intro W base args ds gs before hval0 hW hcnd _
  have hval : ∀ (j : Nat) t v, Try.f8.params[j]? = some t → args[j]? = some v → Value.okWide Try.prog W .any base t v := hval0
  have hW' := hW
  obtain ⟨p, q, hA0, hV, rfl, hfz, hnd⟩ := hW
  have hA : DataW.TrodAll enc Try.prog W 0 (fun _ => true) true Try.f8.params.toList args.toList ds p := hA0
  rw [Try.params8] at hA hval
  obtain ⟨v0, vs0, d0, ds0, p0, q0, hargs, rfl, rfl, h0, r0⟩ := trodAll_cons hA
  obtain ⟨rfl, rfl, rfl⟩ := trodAll_nil r0
  obtain rfl : args = #[v0] := by cases args; simp_all
  obtain ⟨rfl, rfl⟩ := trodVars_none hV
  obtain ⟨a0, rfl, rfl, rfl, w0⟩ := open_string Try.underlying9 (hval 0 9 v0 rfl rfl) h0
  clear hA0 hval0
  simp only [List.append_nil] at hW'
  refine (walk a0 w0 W).mono fun e W' ⟨he, hg⟩ => ?_
  subst he
  exact ⟨_, rfl, post_of_same (pa := []) (pv := []) hW' (fun _ _ _ => (trodAll_cons_mk (shut_bool Try.underlying4 _) trodAll_mk0)) (fun sp _ => (trodAll_cons_mk (shut_string Try.underlying9 w0) trodAll_mk0)) (fun _ _ => rfl) rfl
    (hg.frame _) hg.2.1 (ok_one (by kernel_rfl) rfl (okWide_bool_mk Try.underlying4 _))⟩

theorem over : Rows.fnInvalidSequenceLenLooksAtThreeBytesRow.holds Try.pinned (OpenSpec.ofChange Rows.fnInvalidSequenceLenLooksAtThreeBytesSpec) :=
  OpenClaim.holds_of_wide 8 Try.f8 rfl rfl rfl rfl rfl rfl rfl ⟨rfl, rfl, rfl, rfl, rfl⟩ rfl rfl rfl rfl rfl (by kernel_rfl) Try.func8 (by kernel_rfl)
    (of_decide_eq_true (by kernel_rfl)) (by unfold Func.isWrapper; first | (rw [if_pos (by decide +kernel)]; kernel_rfl) | (rw [if_neg (by decide +kernel)]; exact ⟨rfl, rfl⟩))
    (fun os started H enc _ => lifted os started H enc)

/-- ████ THE STATEMENT ████ -/
theorem proved : Rows.FnInvalidSequenceLenLooksAtThreeBytesSaid :=
  over
end Go.Proofs.Qxb6601363a.fnInvalidSequenceLenLooksAtThreeBytes
