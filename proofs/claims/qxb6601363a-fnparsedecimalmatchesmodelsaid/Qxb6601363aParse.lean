import Derived.Test.Qxb6601363aDec
import Derived.Test.Qxb6601363aDecPlain
namespace Go.Proofs.Qxb6601363a.Num
open Go.RowKit

/-- what the whole text s reads as -/
def PD (s : ByteArray) (n : Bool) (d : ByteArray) (sc : Int) (ok : Bool) : Prop := ∃ neg t, Cut s neg t ∧ PDt neg t n d sc ok

def GivesD (p : Bool → ByteArray → Int → Bool → Prop) (e : Ending) : Prop := ∃ n d sc ok, e = .returned (.tuple #[.agg #[.bool n, .string d, .int .i64 sc], .bool ok]) ∧ p n d sc ok
theorem givesD {p : Bool → ByteArray → Int → Bool → Prop} {n : Bool} {d : ByteArray} {sc : Int} {ok : Bool} (h : p n d sc ok) : GivesD p (.returned (.tuple #[.agg #[.bool n, .string d, .int .i64 sc], .bool ok])) := ⟨n, d, sc, ok, rfl, h⟩

theorem bel3 (w : World) (o : Obj) (n : Nat) (x y z : Value) : Below w.heap.size w (((((w.alloc o).drewN n).setCell ⟨w.heap.size, 0, none⟩ x).setCell ⟨w.heap.size, 1, none⟩ y).setCell ⟨w.heap.size, 2, none⟩ z) :=
  (((below_drewN ((Below.refl _ _).alloc (Nat.le_refl _) o) n).setCell (Nat.le_refl _) x).setCell (Nat.le_refl _) y).setCell (Nat.le_refl _) z

set_option maxHeartbeats 2000000 in
theorem parseW (s : ByteArray) (w : World) (hs : s.size ≤ 1048576) :
    Calls Try.prog 30 #[.string s] w fun e w' => GivesD (PD s) e ∧ Below w.heap.size w w' := by
  go_enter Try.func30, Try.ntmps30
  go_wp2_with fail
  refine (cutW _ _ (by omega)).mono ?_
  rintro e w1 ⟨⟨neg, t, rfl, hcut⟩, n1, rfl⟩
  have hts := cut_size hcut
  have HCUT : Hid (Cut s neg t) := hcut
  clear hcut
  go_wp2_with fail
  refine (scanW _ _ (by omega)).mono ?_
  rintro e w2 ⟨⟨p, f, e1, ok, rfl, hsc⟩, rfl⟩
  rcases scan_cases hsc with ⟨rfl, hna⟩ | ⟨rfl, hlt, hna⟩ | ⟨rfl, rfl, hacc, hfst, p0, hpt, rfl⟩
  · have HX : Hid (PD s false ByteArray.empty 0 false) := ⟨neg, t, HCUT.out, .inl ⟨hna, rfl, rfl, rfl, rfl⟩⟩
    clear hsc hna
    go_wp2
    exact bodyPost_ret (v := .tuple #[.agg #[.bool false, .string ByteArray.empty, .int .i64 0], .bool false]) (by simp [results, Try.results30, go_sem]; rfl) rfl ⟨givesD HX.out, bel3 _ _ _ _ _ _⟩
  · have HX : Hid (PD s false ByteArray.empty 0 false) := ⟨neg, t, HCUT.out, .inl ⟨hna, rfl, rfl, rfl, rfl⟩⟩
    clear hsc hna
    go_wp2
    exact bodyPost_ret (v := .tuple #[.agg #[.bool false, .string ByteArray.empty, .int .i64 0], .bool false]) (by simp [results, Try.results30, go_sem]; rfl) rfl ⟨givesD HX.out, bel3 _ _ _ _ _ _⟩
  · clear hsc
    have hpb : 0 ≤ ptOr p0 t.size ∧ ptOr p0 t.size ≤ t.size := by
      unfold ptOr
      rcases hpt with ⟨q, hq, rfl, _⟩ | ⟨rfl, _⟩ <;> split <;> omega
    have HPT : Hid (PtIs t t.size p0) := hpt
    have HACC : Hid (Acc t) := hacc
    have HFST : Hid (FirstIs t t.size f) := hfst
    generalize hP : ptOr p0 t.size = P at *
    have HP : Hid (ptOr p0 t.size = P) := hP
    clear hP hpt hacc hfst
    by_cases hf : f < 0
    · have HX : Hid (PD s false ByteArray.empty 0 true) := by
        refine ⟨neg, t, HCUT.out, .inr (.inl ⟨HACC.out, ?_, rfl, rfl, rfl, rfl⟩)⟩
        rcases HFST.out with ⟨q, _, rfl, _⟩ | ⟨_, h⟩
        · omega
        · exact h
      go_wp2
      exact bodyPost_ret (v := .tuple #[.agg #[.bool false, .string ByteArray.empty, .int .i64 0], .bool true]) (by simp [results, Try.results30, go_sem]; rfl) rfl ⟨givesD HX.out, bel3 _ _ _ _ _ _⟩
    · obtain ⟨q, hq, hqf, hqn⟩ : ∃ q : Nat, q < t.size ∧ f = q ∧ isNZ (bAt t q) := by
        rcases HFST.out with ⟨q, h1, h2, h3, _⟩ | ⟨h, _⟩
        · exact ⟨q, h1, h2, h3⟩
        · omega
      subst hqf
      have HQN : Hid (isNZ (bAt t q)) := hqn
      clear hqn hf
      go_wp2
      go_loop [9] (fun i => ∃ l : Nat, q ≤ l ∧ l < t.size ∧ i = .int .i64 l ∧ ∀ j, l < j → j < t.size → ¬ isNZ (bAt t j)) (fun i => (intOf i).toNat)
      case atStart => exact ⟨t.size - 1, by omega, by omega, by go_num, by omega⟩
      case round =>
        obtain ⟨l, hql, hlt, rfl, hall⟩ := hrel
        have HA : Hid (∀ j, l < j → j < t.size → ¬ isNZ (bAt t j)) := hall
        clear hall
        have HK : Hid (bAt t l = (t[l].toNat : Int)) := bAt_in hlt
        by_cases c1 : (t[l].toNat : Int) = 48 ∨ (t[l].toNat : Int) = 46
        · have HN : Hid (¬ isNZ (bAt t l)) := by
            show ¬ isNZ _
            rw [HK.out]; unfold isNZ; omega
          have hne : q < l := by
            rcases Nat.lt_or_ge q l with h | h
            · exact h
            · obtain rfl : q = l := by omega
              exact absurd HQN.out HN.out
          have b2 : (((t[l].toNat : Int) == 48) = true) ∨ (((t[l].toNat : Int) == 48) = false ∧ ((t[l].toNat : Int) == 46) = true) := by
            rcases c1 with c | c
            · exact .inl (beq_iff_eq.2 c)
            · exact .inr ⟨beq_eq_false_iff_ne.2 (by omega), beq_iff_eq.2 c⟩
          clear c1
          rcases b2 with b2 | ⟨b2, b3⟩
          all_goals
            go_wp2
            go_round
            case rel => exact ⟨l - 1, by omega, by omega, by go_num, fun j h1 h2 => by
              by_cases e : j = l
              · subst e; exact HN.out
              · exact HA.out j (by omega) h2⟩
            case measure => simp [intOf]; omega
        · have b1 : ((t[l].toNat : Int) == 48) = false := beq_eq_false_iff_ne.2 (by omega)
          have b2 : ((t[l].toNat : Int) == 46) = false := beq_eq_false_iff_ne.2 (by omega)
          have HX : Hid (PD s neg (t.extract q (l + 1)) (P - q) true) := by
            refine ⟨neg, t, HCUT.out, .inr (.inr ⟨HACC.out, q, l, p0, HFST.out, ⟨hlt, nz_of HACC.out.1 hlt (by rw [HK.out]; omega) (by rw [HK.out]; omega), HA.out⟩, HPT.out, rfl, rfl, by rw [HP.out], rfl⟩)⟩
          clear c1
          go_wp2
          exact bodyPost_ret (v := .tuple #[.agg #[.bool neg, .string (t.extract q (l + 1)), .int .i64 (P - q)], .bool true]) (by simp [results, Try.results30, go_sem]) rfl ⟨givesD HX.out, bel3 _ _ _ _ _ _⟩

def Gives4D (p : Bool → ByteArray → Int → Bool → Prop) (e : Ending) : Prop := ∃ n d sc ok, e = .returned (.tuple #[.bool n, .string d, .int .i64 sc, .bool ok]) ∧ p n d sc ok
theorem gives4D {p : Bool → ByteArray → Int → Bool → Prop} {n : Bool} {d : ByteArray} {sc : Int} {ok : Bool} (h : p n d sc ok) : Gives4D p (.returned (.tuple #[.bool n, .string d, .int .i64 sc, .bool ok])) := ⟨n, d, sc, ok, rfl, h⟩

set_option maxHeartbeats 1000000 in
theorem parseZ (s : ByteArray) (w : World) (hs : s.size ≤ 1048576) :
    Calls Try.prog 15 #[.string s] w fun e w' => Gives4D (PD s) e ∧ Below w.heap.size w w' := by
  go_enter Try.func15, Try.ntmps15
  go_wp2_with fail
  refine (parseW _ _ hs).mono ?_
  rintro e w1 ⟨⟨n, d, sc, ok, rfl, h⟩, hb⟩
  have H : Hid (PD s n d sc ok) := h
  clear h
  go_wp2
  go_quiet (fail)
  go_wp2
  refine bodyPost_ret (results_tmp4 rfl _ _ _) rfl ?_
  exact ⟨gives4D H.out, below_drewN (hb.alloc hb.size _) _⟩
end Go.Proofs.Qxb6601363a.Num
