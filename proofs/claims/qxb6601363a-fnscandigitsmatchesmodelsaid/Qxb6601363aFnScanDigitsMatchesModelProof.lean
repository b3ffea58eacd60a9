import Derived.Test.Qxb6601363aRows
import Derived.WalkKit
import Derived.ProofKit
import Derived.OpenShut
import Derived.ShutString
import Derived.Test.Qxb6601363aScanModel
namespace Go.Proofs.Qxb6601363a.fnScanDigitsMatchesModel
open Go.ChangeShapes Go.WideShapes Go.ChangeAt Go.RowKit
open Go.ChangeMaps (open_string shut_string)
open Go.Proofs.Qxb6601363a.Num
set_option linter.unusedVariables false      -- a walk need not use every 'w<i>' (that an integer argument fits its kind)

theorem own : ownKnob Try.prog.godebug = none := by kernel_rfl

/-! ### STEP 1: the walk -/
theorem size_cut (s : ByteArray) (n : Nat) (hn : n ≤ s.size) : (s.extract 0 n).size = n := by simp; omega
theorem bAt_cut (s : ByteArray) (n i : Nat) (hn : n ≤ s.size) (hi : i < n) : bAt (s.extract 0 n) i = bAt s i := by
  have hz := size_cut s n hn
  rw [bAt_in (by omega), bAt_in (by omega)]
  congr 2
  simp [ByteArray.getElem_extract]

theorem chars_cut {s : ByteArray} {E : Nat} (hE : E ≤ s.size) : Chars (s.extract 0 E) E ↔ Chars s E := by
  unfold Chars
  constructor
  · intro h j hj; rw [← bAt_cut s E j hE hj]; exact h j hj
  · intro h j hj; rw [bAt_cut s E j hE hj]; exact h j hj
theorem one_cut {s : ByteArray} {E : Nat} (hE : E ≤ s.size) : OnePt (s.extract 0 E) E ↔ OnePt s E := by
  unfold OnePt
  constructor
  · intro h i j hij hj; rw [← bAt_cut s E j hE hj, ← bAt_cut s E i hE (by omega)]; exact h i j hij hj
  · intro h i j hij hj; rw [bAt_cut s E j hE hj, bAt_cut s E i hE (by omega)]; exact h i j hij hj
theorem pt_cut {s : ByteArray} {E : Nat} {p : Int} (hE : E ≤ s.size) (h : PtIs (s.extract 0 E) E p) : PtIs s E p := by
  rcases h with ⟨q, hq, rfl, h1, h2⟩ | ⟨rfl, h1⟩
  · exact .inl ⟨q, hq, rfl, by rw [← bAt_cut s E q hE hq]; exact h1, fun j hj => by rw [← bAt_cut s E j hE (by omega)]; exact h2 j hj⟩
  · exact .inr ⟨rfl, fun j hj => by rw [← bAt_cut s E j hE hj]; exact h1 j hj⟩
theorem first_cut {s : ByteArray} {E : Nat} {p : Int} (hE : E ≤ s.size) (h : FirstIs (s.extract 0 E) E p) : FirstIs s E p := by
  rcases h with ⟨q, hq, rfl, h1, h2⟩ | ⟨rfl, h1⟩
  · exact .inl ⟨q, hq, rfl, by rw [← bAt_cut s E q hE hq]; exact h1, fun j hj => by rw [← bAt_cut s E j hE (by omega)]; exact h2 j hj⟩
  · exact .inr ⟨rfl, fun j hj => by rw [← bAt_cut s E j hE hj]; exact h1 j hj⟩
theorem ok_cut {s : ByteArray} {E : Nat} {ok : Bool} (hE : E ≤ s.size) (h : ok = true ↔ ∃ j, j < E ∧ isD (bAt (s.extract 0 E) j)) : OkIs s E ok := by
  refine h.trans ⟨fun ⟨j, hj, hd⟩ => ⟨j, hj, by rw [← bAt_cut s E j hE hj]; exact hd⟩, fun ⟨j, hj, hd⟩ => ⟨j, hj, by rw [bAt_cut s E j hE hj]; exact hd⟩⟩

set_option maxHeartbeats 1000000 in
theorem modelW (s : ByteArray) (w : World) (hs : s.size ≤ 2000000) :
    Calls Try.prog 11 #[.string s] w fun e w' => Gives4 (Scan s) e ∧ w' = w := by
  go_enter Try.func11, Try.ntmps11
  go_wp2_with fail
  refine (expW _ _ hs).mono ?_
  rintro e w1 ⟨⟨x, rfl, E, rfl, hE⟩, rfl⟩
  have hEs : E ≤ s.size := hE.1
  have hEs' : (E : Int) ≤ (s.size : Int) := by omega
  have HE : Hid (IsExp s E) := hE
  clear hE
  have hz := size_cut s E hEs
  have HZ : Hid ((s.extract 0 E).size = E) := hz
  clear hz
  have K26 : Hid (∀ w, Calls Try.prog 26 #[.string (s.extract 0 E)] w fun e w' => Tells (Chars (s.extract 0 E) E) e ∧ w' = w) := by
    intro w; have := onlyW (s.extract 0 E) w (by rw [HZ.out]; omega); rwa [HZ.out] at this
  have K27 : Hid (∀ w, Calls Try.prog 27 #[.string (s.extract 0 E), .int .u8 46] w fun e w' => e = .returned (.int .i64 (cntP (s.extract 0 E) E)) ∧ w' = w) := by
    intro w; have := cntW (s.extract 0 E) w (by rw [HZ.out]; omega); rwa [HZ.out] at this
  have K18 : Hid (∀ w, Calls Try.prog 18 #[.string (s.extract 0 E), .int .u8 46] w fun e w' => GivesI (PtIs (s.extract 0 E) E) e ∧ w' = w) := by
    intro w; have := idxW (s.extract 0 E) w (by rw [HZ.out]; omega); rwa [HZ.out] at this
  have K28 : Hid (∀ w, Calls Try.prog 28 #[.string (s.extract 0 E)] w fun e w' => GivesI (FirstIs (s.extract 0 E) E) e ∧ w' = w) := by
    intro w; have := fstW (s.extract 0 E) w (by rw [HZ.out]; omega); rwa [HZ.out] at this
  have K29 : Hid (∀ w, Calls Try.prog 29 #[.string (s.extract 0 E)] w fun e w' => e = .returned (.int .i64 (cntD (s.extract 0 E) E)) ∧ w' = w) := by
    intro w; have := cntDW (s.extract 0 E) w (by rw [HZ.out]; omega); rwa [HZ.out] at this
  have HC : Hid (Chars (s.extract 0 E) E ↔ Chars s E) := chars_cut hEs
  have HO : Hid (OnePt (s.extract 0 E) E ↔ OnePt s E) := one_cut hEs
  have HP : Hid (∀ p, PtIs (s.extract 0 E) E p → PtIs s E p) := fun p => pt_cut hEs
  have HF : Hid (∀ p, FirstIs (s.extract 0 E) E p → FirstIs s E p) := fun p => first_cut hEs
  have HK : Hid (∀ ok : Bool, (ok = true ↔ ∃ j, j < E ∧ isD (bAt (s.extract 0 E) j)) → OkIs s E ok) := fun ok => ok_cut hEs
  go_wp2_with fail
  generalize s.extract 0 E = h at *
  refine (K26.out _).mono ?_
  rintro e w2 ⟨⟨bb, rfl, hbb⟩, rfl⟩
  have HB : Hid (bb = true ↔ Chars h E) := hbb
  clear hbb
  cases bb
  · have HX : Hid (Scan s 0 0 0 false) := ⟨E, HE.out, .inr ⟨fun ⟨h1, _⟩ => absurd (HB.out.2 (HC.out.2 h1)) (by decide), rfl, rfl, rfl, rfl⟩⟩
    go_wp2
    refine bodyPost_ret (results_tmp4 rfl _ _ _) rfl ?_
    exact ⟨gives4 HX.out, rfl⟩
  · have hcl := cntP_le h E
    have H1 : Hid (cntP h E ≤ 1 ↔ OnePt h E) := cntP_one h E
    have HCH : Hid (Chars s E) := HC.out.1 (HB.out.1 rfl)
    go_wp2_with fail
    refine (K27.out _).mono ?_
    rintro e w3 ⟨rfl, rfl⟩
    generalize cntP h E = c at *
    by_cases hc : 1 < c
    · have HX : Hid (Scan s 0 0 0 false) := ⟨E, HE.out, .inr ⟨fun ⟨_, h1⟩ => by have := H1.out.2 (HO.out.2 h1); omega, rfl, rfl, rfl, rfl⟩⟩
      go_wp2
      refine bodyPost_ret (results_tmp4 rfl _ _ _) rfl ?_
      exact ⟨gives4 HX.out, rfl⟩
    · have HON : Hid (OnePt s E) := HO.out.1 (H1.out.1 (by omega))
      go_wp2_with fail
      refine (K18.out _).mono ?_
      rintro e w4 ⟨⟨p, rfl, hp⟩, rfl⟩
      have HPT : Hid (PtIs s E p) := HP.out p hp
      clear hp
      have HD : Hid (0 < cntD h E ↔ ∃ j, j < E ∧ isD (bAt h j)) := cntD_pos h E
      by_cases hpn : p < 0
      all_goals
        go_wp2_with fail
        refine (K28.out _).mono ?_
        rintro e w5 ⟨⟨f, rfl, hf⟩, rfl⟩
        have HFF : Hid (FirstIs s E f) := HF.out f hf
        clear hf
        go_wp2_with fail
        refine (K29.out _).mono ?_
        rintro e w6 ⟨rfl, rfl⟩
        generalize cntD h E = d at *
        go_wp2
        refine bodyPost_ret (results_tmp4 rfl _ _ _) rfl ?_
        refine ⟨gives4 ⟨E, HE.out, .inl ⟨HCH.out, HON.out, rfl, ⟨p, HPT.out, ?_⟩, HFF.out, HK.out _ ?_⟩⟩, rfl⟩
        · unfold ptOr; split <;> first | rfl | omega
        · rw [← HD.out]; simp

theorem scanZ (s : ByteArray) (w : World) (hs : s.size ≤ 2000000) :
    Calls Try.prog 10 #[.string s] w fun e w' => Gives4 (Scan s) e ∧ w' = w := by
  go_enter Try.func10, Try.ntmps10
  go_wp2_with fail
  refine (scanW _ _ hs).mono ?_
  rintro e w1 ⟨⟨a, b, c, d, rfl, h⟩, rfl⟩
  have H : Hid (Scan s a b c d) := h
  clear h
  go_wp2
  refine bodyPost_ret (results_tmp4 rfl _ _ _) rfl ?_
  exact ⟨gives4 H.out, rfl⟩

theorem bytes_yes (a0 : ByteArray) (w : World) (h1 : a0.size ≤ 1048576) :
    Calls Try.prog 9 #[.string a0] w fun e w' => e = .returned (.bool true) ∧ w' = w := by
  go_enter Try.func9, Try.ntmps9
  go_wp2
  go_ret
  exact ⟨rfl, rfl⟩

theorem bytes_no (a0 : ByteArray) (w : World) (w1 : a0.size ≤ maxLen) (h1 : 1048576 < a0.size) :
    Calls Try.prog 9 #[.string a0] w fun e w' => e = .returned (.bool false) ∧ w' = w := by
  unfold maxLen at w1
  go_enter Try.func9, Try.ntmps9
  go_wp2
  go_ret
  exact ⟨rfl, rfl⟩

set_option maxHeartbeats 1000000 in
theorem walk (a0 : ByteArray) (w0 : a0.size ≤ maxLen) (w : World) :
    Calls Try.prog 3 #[.string a0] w fun e w' => e = .returned (.bool true) ∧ Grown w w' := by
  by_cases hs : a0.size ≤ 1048576
  · go_enter Try.func3, Try.ntmps3
    go_wp2_with (first | (go_at_call 9; refine (bytes_yes _ _ hs).mono ?_; rintro e w' ⟨rfl, rfl⟩))
    refine (scanZ _ _ (by omega)).mono ?_
    rintro e w1 ⟨⟨p, f, e1, ok, rfl, h⟩, rfl⟩
    have H : Hid (Scan a0 p f e1 ok) := h
    clear h
    go_wp2_with fail
    refine (modelW _ _ (by omega)).mono ?_
    rintro e w2 ⟨⟨p', f', e', ok', rfl, h⟩, rfl⟩
    obtain ⟨rfl, rfl, rfl, rfl⟩ := scan_unique H.out h
    clear h
    go_wp2
    go_ret
    exact ⟨rfl, Grown.refl _⟩
  · go_enter Try.func3, Try.ntmps3
    go_wp2_with (first | (go_at_call 9; refine (bytes_no _ _ w0 (by omega)).mono ?_; rintro e w' ⟨rfl, rfl⟩))
    go_ret
    exact ⟨rfl, Grown.refl _⟩

/-! ### THE ROW's STEP: WRITTEN OUT: LEAVE IT -/
set_option maxRecDepth 100000 in
theorem lifted (os : Os) (started : os.Started) (H : Type) (enc : TypeId × Value → H) :
    ReturnsInHanded {} Try.checked os 3 .any (Rows.fnScanDigitsMatchesModelSpec.pre6 enc Try.prog Try.f3 Rows.fnScanDigitsMatchesModelRow.domain false) (Rows.fnScanDigitsMatchesModelSpec.post enc Try.prog Try.f3 false true false false) := by
  refine returnsInHanded_of_change (C := Try.checked) own started (by kernel_rfl) Try.func3
    (ChangeSpec.witness6 (enc := enc) (C := Try.checked) false ⟨#[], #[.string ByteArray.empty], []⟩ 8 (by kernel_rfl) (by kernel_rfl) (by kernel_rfl) (by kernel_rfl)) ?_
  intro W base args ds gs before hval0 hW hcnd _
  have hval : ∀ (j : Nat) t v, Try.f3.params[j]? = some t → args[j]? = some v → Value.okWide Try.prog W .any base t v := hval0
  have hW' := hW
  obtain ⟨p, q, hA0, hV, rfl, hfz, hnd⟩ := hW
  have hA : DataW.TrodAll enc Try.prog W 0 (fun _ => true) true Try.f3.params.toList args.toList ds p := hA0
  rw [Try.params3] at hA hval
  obtain ⟨v0, vs0, d0, ds0, p0, q0, hargs, rfl, rfl, h0, r0⟩ := trodAll_cons hA
  obtain ⟨rfl, rfl, rfl⟩ := trodAll_nil r0
  obtain rfl : args = #[v0] := by cases args; simp_all
  obtain ⟨rfl, rfl⟩ := trodVars_none hV
  obtain ⟨a0, rfl, rfl, rfl, w0⟩ := open_string Try.underlying9 (hval 0 9 v0 rfl rfl) h0
  clear hA0 hval0
  simp only [List.append_nil] at hW'
  refine (walk a0 w0 W).mono fun e W' ⟨he, hg⟩ => ?_
  subst he
  exact ⟨_, rfl, post_of_same (pa := []) (pv := []) hW' (fun _ _ _ => (trodAll_cons_mk (shut_bool Try.underlying4 _) trodAll_mk0)) (fun sp _ => (trodAll_cons_mk (shut_string Try.underlying9 w0) trodAll_mk0)) (fun _ _ => rfl) rfl
    (hg.frame _) hg.2.1 (ok_one (by kernel_rfl) rfl (okWide_bool_mk Try.underlying4 _))⟩

theorem over : Rows.fnScanDigitsMatchesModelRow.holds Try.pinned (OpenSpec.ofChange Rows.fnScanDigitsMatchesModelSpec) :=
  OpenClaim.holds_of_wide 3 Try.f3 rfl rfl rfl rfl rfl rfl rfl ⟨rfl, rfl, rfl, rfl, rfl⟩ rfl rfl rfl rfl rfl (by kernel_rfl) Try.func3 (by kernel_rfl)
    (of_decide_eq_true (by kernel_rfl)) (by unfold Func.isWrapper; first | (rw [if_pos (by decide +kernel)]; kernel_rfl) | (rw [if_neg (by decide +kernel)]; exact ⟨rfl, rfl⟩))
    (fun os started H enc _ => lifted os started H enc)

/-- ████ THE STATEMENT ████ -/
theorem proved : Rows.FnScanDigitsMatchesModelSaid :=
  over
end Go.Proofs.Qxb6601363a.fnScanDigitsMatchesModel
