import Derived.Test.Qxb6601363aParse
import Derived.Test.Qxb6601363aModPlain
import Derived.Test.Qxb6601363aScanModel
import Derived.Laws.IdiomStrings
namespace Go.Proofs.Qxb6601363a.Num
open Go.RowKit

theorem info5 : (Try.prog.info? 5).map (fun i => (i.zero, i.size, i.bytes)) = some (some (.int .u8 0), 1, 1) := by kernel_rfl

/-- bytes as cells -/
def cls (l : List UInt8) : List Value := l.map fun b => .int .u8 (b.toNat : Int)
theorem cls_len (l : List UInt8) : (cls l).length = l.length := by simp [cls]
theorem cls_app (l m : List UInt8) : cls (l ++ m) = cls l ++ cls m := by simp [cls]

theorem cls_get {l : List UInt8} {j : Nat} (h : j < l.length) : (cls l)[j]? = some (.int .u8 (l[j].toNat : Int)) := by
  simp [cls, h]
theorem ret_ref : Hid (∀ s t neg, Cut s neg t → ¬ Acc t → PD s false ByteArray.empty 0 false) := fun _ t neg hc h => ⟨neg, t, hc, .inl ⟨h, rfl, rfl, rfl, rfl⟩⟩
theorem not_acc_L {t : ByteArray} {p : Int} {L : List UInt8} (hL : L = Ld t t.size p) (h : MInv t t.size p) (hn : L.length = 0) : ¬ Acc t := by subst hL; exact not_acc_of h hn
theorem zero_L {s : ByteArray} {neg : Bool} {t : ByteArray} {p : Int} {L : List UInt8} (hc : Cut s neg t) (hL : L = Ld t t.size p) (h : MInv t t.size p) (hn : 0 < L.length) (hz : ∀ i (hi : i < L.length), (L[i].toNat : Int) = 48) : PD s false ByteArray.empty 0 true := by
  subst hL; exact ⟨neg, t, hc, pd_zero h hn hz⟩
theorem total_L {t : ByteArray} {p : Int} {L : List UInt8} (hL : L = Ld t t.size p) (h : MInv t t.size p) : L.length = if (ptOr p t.size).toNat < t.size then t.size - 1 else t.size := by subst hL; exact Ld_total h
theorem model_L {s : ByteArray} {neg : Bool} {t : ByteArray} {p : Int} {L : List UInt8} (hc : Cut s neg t) (hL : L = Ld t t.size p) (h : MInv t t.size p) {a c : Nat} (hac : a ≤ c) (hcl : c < L.length)
    (ha0 : ∀ i (hi : i < L.length), i < a → (L[i].toNat : Int) = 48) (ha1 : (L[a].toNat : Int) ≠ 48) (hc0 : ∀ i (hi : i < L.length), c < i → (L[i].toNat : Int) = 48) (hc1 : (L[c].toNat : Int) ≠ 48) {Q : Int} (hQ : Q = ptOr p t.size) :
    ((¬ (0 < Q - a ∧ Q - a < (c + 1 - a : Nat))) → PD s neg ⟨((L.drop a).take (c + 1 - a)).toArray⟩ (scOf (Q - a)) true) ∧
    ((0 < Q - a ∧ Q - a < (c + 1 - a : Nat)) → PD s neg (⟨((L.drop a).take (Q.toNat - a)).toArray⟩ ++ ⟨#[46]⟩ ++ ⟨((L.drop Q.toNat).take (c + 1 - Q.toNat)).toArray⟩) (scOf (Q - a)) true) := by
  subst hL
  subst hQ
  have hnn : 0 ≤ ptOr p t.size := by unfold ptOr; have := minv_bd h; split <;> omega
  constructor
  · intro hk
    exact ⟨neg, t, hc, pd_model h (a := a) (b := c + 1) (by omega) (by omega) ha0 ha1 (fun i hi hib => hc0 i hi (by omega)) (by simpa using hc1) (text_plain h (by omega) (by omega))⟩
  · intro hk
    exact ⟨neg, t, hc, pd_model h (a := a) (b := c + 1) (by omega) (by omega) ha0 ha1 (fun i hi hib => hc0 i hi (by omega)) (by simpa using hc1) (text_point h (by omega) (by omega) (by omega))⟩
theorem own_cell {w : World} {base g n cap : Nat} {L : List UInt8} (h : w.ownsRow base 5 1 (.slice (some ⟨g, 0, none⟩) n cap) n (cls L)) {j : Nat} (hj : j < L.length) : w.cell? ⟨g, j, none⟩ = some (.int .u8 (L[j].toNat : Int)) := by
  have hl := h.1
  rw [cls_len] at hl
  rw [h.cellAt j (by omega), cls_get hj]
theorem own_conv {w : World} {base g n cap : Nat} {L : List UInt8} (h : w.ownsRow base 5 1 (.slice (some ⟨g, 0, none⟩) n cap) n (cls L)) (a m cap' : Nat) (hm : a + m ≤ L.length) (k : Nat) :
    (convert 36 9 (.slice (some ⟨g, a, none⟩) m cap')).run Try.prog (w.drewN k) = .ok (.string ⟨((L.drop a).take m).toArray⟩) (w.drewN k) := by
  have hl : ((L.drop a).take m).length = m := by simp; omega
  have := run_convert_bytes_back (P := Try.prog) (w.drewN k) 36 9 5 ⟨g, a, none⟩ cap' ((L.drop a).take m) Try.underlying36 Try.underlying5 Try.underlying9 (fun j hj => by
    have hc := own_cell h (j := a + j) (by omega)
    have e : (⟨g, a, none⟩ : Addr).add j = ⟨g, a + j, none⟩ := by unfold Addr.add; split <;> simp_all
    rw [e]
    show w.cell? _ = _
    rw [hc]
    simp)
  rwa [hl] at this
theorem own_conv0 {w : World} {base g n cap : Nat} {L : List UInt8} (h : w.ownsRow base 5 1 (.slice (some ⟨g, 0, none⟩) n cap) n (cls L)) (a m cap' : Nat) (hm : a + m ≤ L.length) :
    (convert 36 9 (.slice (some ⟨g, a, none⟩) m cap')).run Try.prog w = .ok (.string ⟨((L.drop a).take m).toArray⟩) w := own_conv h a m cap' hm 0
theorem own_conv1 {w : World} {base g n cap : Nat} {L : List UInt8} (h : w.ownsRow base 5 1 (.slice (some ⟨g, 0, none⟩) n cap) n (cls L)) (a m cap' : Nat) (hm : a + m ≤ L.length) :
    (convert 36 9 (.slice (some ⟨g, a, none⟩) m cap')).run Try.prog w.drew = .ok (.string ⟨((L.drop a).take m).toArray⟩) w.drew := own_conv h a m cap' hm 1
theorem mk_size (l : List UInt8) : (⟨l.toArray⟩ : ByteArray).size = l.length := rfl

set_option maxHeartbeats 8000000 in
theorem modW (s : ByteArray) (w : World) (hs : s.size ≤ 1048576) :
    Calls Try.prog 16 #[.string s] w fun e w' => Gives4D (PD s) e ∧ Below w.heap.size w w' := by
  obtain ⟨i0, hi, hz0, hz1, hz2⟩ := info_parts info5
  have ways : (s.size = 0) ∨ (∃ h : 0 < s.size, (s[0].toNat : Int) ≠ 43 ∧ (s[0].toNat : Int) ≠ 45) ∨ (∃ h : 0 < s.size, (s[0].toNat : Int) = 43) ∨ (∃ h : 0 < s.size, (s[0].toNat : Int) = 45) := by
    rcases Nat.eq_zero_or_pos s.size with h | h
    · exact .inl h
    · by_cases c1 : (s[0].toNat : Int) = 43
      · exact .inr (.inr (.inl ⟨h, c1⟩))
      · by_cases c2 : (s[0].toNat : Int) = 45
        · exact .inr (.inr (.inr ⟨h, c2⟩))
        · exact .inr (.inl ⟨h, c1, c2⟩)
  rcases ways with h0 | ⟨h0, c1, c2⟩ | ⟨h0, c1⟩ | ⟨h0, c1⟩
  · have HCUT : Hid (Cut s false s) := .inr (.inr ⟨.inl h0, rfl, rfl⟩)
    have hnp : ¬ (0 : Int) < (s.size : Int) := by omega
    have H0 : Hid (s.size = 0) := h0
    clear h0
    obtain ⟨C, hC⟩ : ∃ C, C = s.size := ⟨_, rfl⟩
    have HC : Hid (C = s.size) := hC
    clear hC
    go_enter Try.func16, Try.ntmps16
    go_wp2_with (first | (at_make; go_must (refine wpList_make_own _ rfl _ _ 36 rfl w.heap.size 5 i0 (.int .u8 0) 1 Try.underlying36 hi hz0 hz1 .i64 .i64 _ C rfl rfl (by have := HC.out; omega) (by rw [hz2]; have := HC.out; omega) (by have := HC.out; unfold maxLen; omega) (Nat.le_refl _) ?_; intro w1 hown1 hgrow1)))
    clear H0 hnp
    have hcap : s.size ≤ C := by have := HC.out; omega
    have hts := hs
    rename ByteArray => t
    clear HC
    have hB1 : Below w.heap.size w w1 := (Below.refl _ _).grown hgrow1 (Nat.le_refl _) (fun _ h => by cases h)
    clear hgrow1
    go_loopw [8, 9, 10] (fun ds pv iv wr => ∃ (k : Nat) (p : Int) (L : List UInt8), k ≤ t.size ∧ iv = .int .i64 k ∧ pv = .int .i64 p ∧ ds = .slice (some ⟨w.heap.size, 0, none⟩) L.length C ∧ wr.ownsRow w.heap.size 5 1 (.slice (some ⟨w.heap.size, 0, none⟩) L.length C) L.length (cls L) ∧ Below w.heap.size w wr ∧ L = Ld t k p ∧ MInv t k p) (fun _ _ iv _ => t.size - (intOf iv).toNat)
    case atStart => exact ⟨0, -1, [], Nat.zero_le _, rfl, rfl, rfl, hown1, hB1, by simp [Ld], minv_zero t⟩
    case round =>
      clear hown1 hB1
      obtain ⟨k, p, L, hk, rfl, rfl, rfl, hown, hbel, hL, hinv⟩ := hrel
      have hpb := minv_bd hinv
      have hLlen : L.length = if p < 0 then k else k - 1 := by rw [hL]; exact Ld_len hk hpb.2
      have hLk : L.length ≤ k := by split at hLlen <;> omega
      have HLEN : Hid (L.length = if p < 0 then k else k - 1) := hLlen
      have HL : Hid (L = Ld t k p) := hL
      have HI : Hid (MInv t k p) := hinv
      clear hLlen hL hinv
      by_cases hlt : k < t.size
      · exfalso; omega
      · obtain rfl : k = t.size := by omega
        by_cases hn0 : L.length = 0
        · have bn : ((L.length : Int) == 0) = true := beq_iff_eq.2 (by omega)
          have HX : Hid (PD _ false ByteArray.empty 0 false) := ret_ref.out _ _ _ HCUT.out (not_acc_L HL.out HI.out hn0)
          have HN : Hid (L.length = 0) := hn0
          clear hn0
          go_wp2
          refine bodyPost_ret (results_tmp4 rfl _ _ _) rfl ?_
          exact ⟨gives4D HX.out, hbel⟩
        · exfalso; omega
  · have HCUT : Hid (Cut s false s) := .inr (.inr ⟨.inr ⟨by rw [bAt_in h0]; exact c1, by rw [bAt_in h0]; exact c2⟩, rfl, rfl⟩)
    have hnp : (0 : Int) < (s.size : Int) := by omega
    have b1 : ((s[0].toNat : Int) == 43) = false := beq_eq_false_iff_ne.2 c1
    have b2 : ((s[0].toNat : Int) == 45) = false := beq_eq_false_iff_ne.2 c2
    clear c1 c2
    obtain ⟨C, hC⟩ : ∃ C, C = s.size := ⟨_, rfl⟩
    have HC : Hid (C = s.size) := hC
    clear hC
    go_enter Try.func16, Try.ntmps16
    go_wp2_with (first | (at_make; go_must (refine wpList_make_own _ rfl _ _ 36 rfl w.heap.size 5 i0 (.int .u8 0) 1 Try.underlying36 hi hz0 hz1 .i64 .i64 _ C rfl rfl (by have := HC.out; omega) (by rw [hz2]; have := HC.out; omega) (by have := HC.out; unfold maxLen; omega) (Nat.le_refl _) ?_; intro w1 hown1 hgrow1)))
    clear b1 b2 hnp
    have hcap : s.size ≤ C := by have := HC.out; omega
    have hts := hs
    rename ByteArray => t
    clear HC
    have hB1 : Below w.heap.size w w1 := (Below.refl _ _).grown hgrow1 (Nat.le_refl _) (fun _ h => by cases h)
    clear hgrow1
    go_loopw [8, 9, 10] (fun ds pv iv wr => ∃ (k : Nat) (p : Int) (L : List UInt8), k ≤ t.size ∧ iv = .int .i64 k ∧ pv = .int .i64 p ∧ ds = .slice (some ⟨w.heap.size, 0, none⟩) L.length C ∧ wr.ownsRow w.heap.size 5 1 (.slice (some ⟨w.heap.size, 0, none⟩) L.length C) L.length (cls L) ∧ Below w.heap.size w wr ∧ L = Ld t k p ∧ MInv t k p) (fun _ _ iv _ => t.size - (intOf iv).toNat)
    case atStart => exact ⟨0, -1, [], Nat.zero_le _, rfl, rfl, rfl, hown1, hB1, by simp [Ld], minv_zero t⟩
    case round =>
      clear hown1 hB1
      obtain ⟨k, p, L, hk, rfl, rfl, rfl, hown, hbel, hL, hinv⟩ := hrel
      have hpb := minv_bd hinv
      have hLlen : L.length = if p < 0 then k else k - 1 := by rw [hL]; exact Ld_len hk hpb.2
      have hLk : L.length ≤ k := by split at hLlen <;> omega
      have HLEN : Hid (L.length = if p < 0 then k else k - 1) := hLlen
      have HL : Hid (L = Ld t k p) := hL
      have HI : Hid (MInv t k p) := hinv
      clear hLlen hL hinv
      by_cases hlt : k < t.size
      · have HK : Hid (bAt t k = (t[k].toNat : Int)) := bAt_in hlt
        by_cases c1 : isD (t[k].toNat : Int)
        · have HCD : Hid (isD (t[k].toNat : Int)) := c1
          clear c1
          have hws : w.heap.size ≤ wr.heap.size := hbel.size
          go_wp2_with (first | (go_at_call 31; refine (dig_yes _ _ HCD.out).mono ?_; rintro e w' ⟨rfl, hw'⟩; rw [hw']; clear hw') | (at_builtin; go_must (refine wpList_append_fits _ rfl _ _ 36 rfl w.heap.size 5 i0 1 Try.underlying36 hi hz1 w.heap.size L.length C (cls L) rfl (hown.alloc _) ⟨wr.heap.size, 0, none⟩ 1 1 [.int .u8 (t[k].toNat : Int)] rfl rfl (cell_one_new _ _ _) (by simp [Value.oneCell']) (by omega) ?_; intro w2 hown2 hgrow2)))
          go_roundw
          case rel => exact ⟨k + 1, p, L ++ [t[k]], by omega, by go_num, rfl, by simp, by simpa [cls_app, cls] using hown2, (hbel.alloc hws _).grown hgrow2 (by simp; omega) (fun j hj => by cases hj; exact Nat.le_refl _), by rw [HL.out]; exact (Ld_digit hlt hpb.2).symm, minv_digit HI.out (by rw [HK.out]; exact HCD.out)⟩
          case measure => simp [intOf]; omega
        · have HCD : Hid (¬ isD (t[k].toNat : Int)) := c1
          clear c1
          by_cases c2 : (t[k].toNat : Int) = 46
          · have b46 : ((t[k].toNat : Int) == 46) = true := beq_iff_eq.2 c2
            have H46 : Hid (bAt t k = 46) := HK.out.trans c2
            clear c2
            by_cases hp : p < 0
            · have hLk' : L.length = k := by have := HLEN.out; rw [if_pos hp] at this; exact this
              have HLK : Hid (L.length = k) := hLk'
              clear hLk'
              go_wp2_with (first | (go_at_call 31; refine (dig_no _ _ HCD.out).mono ?_; rintro e w' ⟨rfl, hw'⟩; rw [hw']; clear hw'))
              go_roundw
              case rel => exact ⟨k + 1, k, L, by omega, by go_num, by rw [HLK.out], rfl, hown, hbel, by rw [HL.out]; exact (Ld_point hp).symm, minv_point HI.out H46.out hp⟩
              case measure => simp [intOf]; omega
            · have HX : Hid (PD _ false ByteArray.empty 0 false) := ret_ref.out _ _ _ HCUT.out (minv_bad HI.out hlt (by rw [HK.out]; exact HCD.out) (fun _ => by omega))
              go_wp2_with (first | (go_at_call 31; refine (dig_no _ _ HCD.out).mono ?_; rintro e w' ⟨rfl, hw'⟩; rw [hw']; clear hw'))
              refine bodyPost_ret (results_tmp4 rfl _ _ _) rfl ?_
              exact ⟨gives4D HX.out, hbel⟩
          · have b46 : ((t[k].toNat : Int) == 46) = false := beq_eq_false_iff_ne.2 c2
            have HX : Hid (PD _ false ByteArray.empty 0 false) := ret_ref.out _ _ _ HCUT.out (minv_bad HI.out hlt (by rw [HK.out]; exact HCD.out) (fun h => absurd (HK.out.symm.trans h) c2))
            clear c2
            go_wp2_with (first | (go_at_call 31; refine (dig_no _ _ HCD.out).mono ?_; rintro e w' ⟨rfl, hw'⟩; rw [hw']; clear hw'))
            refine bodyPost_ret (results_tmp4 rfl _ _ _) rfl ?_
            exact ⟨gives4D HX.out, hbel⟩
      · obtain rfl : k = t.size := by omega
        by_cases hn0 : L.length = 0
        · have bn : ((L.length : Int) == 0) = true := beq_iff_eq.2 (by omega)
          have HX : Hid (PD _ false ByteArray.empty 0 false) := ret_ref.out _ _ _ HCUT.out (not_acc_L HL.out HI.out hn0)
          have HN : Hid (L.length = 0) := hn0
          clear hn0
          go_wp2
          refine bodyPost_ret (results_tmp4 rfl _ _ _) rfl ?_
          exact ⟨gives4D HX.out, hbel⟩
        · have bn : ((L.length : Int) == 0) = false := beq_eq_false_iff_ne.2 (by omega)
          have hnpos : 0 < L.length := by omega
          have HTOT := total_L HL.out HI.out
          have hQb : 0 ≤ ptOr p t.size ∧ ptOr p t.size ≤ t.size := by unfold ptOr; split <;> omega
          by_cases hp : p < 0
          · have hQ : Hid ((L.length : Int) = ptOr p t.size) := by
              have h1 := HLEN.out
              rw [if_pos hp] at h1
              show (L.length : Int) = ptOr p t.size
              rw [ptOr_neg hp, h1]
            clear HTOT
            go_wp2
            go_loop [12] (fun av => ∃ a : Nat, a ≤ L.length ∧ av = .int .i64 a ∧ ∀ i (hi : i < L.length), i < a → (L[i].toNat : Int) = 48) (fun av => L.length - (intOf av).toNat)
            case atStart => exact ⟨0, Nat.zero_le _, rfl, by omega⟩
            case round =>
              obtain ⟨a, ha, rfl, hall⟩ := hrel
              have HA : Hid (∀ i (hi : i < L.length), i < a → (L[i].toNat : Int) = 48) := hall
              clear hall
              by_cases hal : a < L.length
              · have hal' : (a : Int) < (L.length : Int) := by omega
                have hca := own_cell hown hal
                by_cases c1 : (L[a].toNat : Int) = 48
                · have b1 : ((L[a].toNat : Int) == 48) = true := beq_iff_eq.2 c1
                  have H1 : Hid ((L[a].toNat : Int) = 48) := c1
                  clear c1
                  go_wp2
                  go_round
                  case rel => exact ⟨a + 1, by omega, by go_num, fun i hi h => by
                    by_cases e : i = a
                    · subst e; exact H1.out
                    · exact HA.out i hi (by omega)⟩
                  case measure => simp [intOf]; omega
                · have b1 : ((L[a].toNat : Int) == 48) = false := beq_eq_false_iff_ne.2 c1
                  have HA1 : Hid ((L[a].toNat : Int) ≠ 48) := c1
                  clear c1
                  have bal : ((a : Int) == (L.length : Int)) = false := beq_eq_false_iff_ne.2 (by omega)
                  go_wp2
                  go_loop [13] (fun bv => ∃ c : Nat, a ≤ c ∧ c < L.length ∧ bv = .int .i64 ((c : Int) + 1) ∧ ∀ i (hi : i < L.length), c < i → (L[i].toNat : Int) = 48) (fun bv => (intOf bv).toNat)
                  case atStart => exact ⟨L.length - 1, by omega, by omega, by go_num, fun i hi h => by omega⟩
                  case round =>
                    obtain ⟨c, hac, hcl, rfl, hall⟩ := hrel
                    have HCZ : Hid (∀ i (hi : i < L.length), c < i → (L[i].toNat : Int) = 48) := hall
                    clear hall
                    have hcc := own_cell hown hcl
                    by_cases c1 : (L[c].toNat : Int) = 48
                    · have b2 : ((L[c].toNat : Int) == 48) = true := beq_iff_eq.2 c1
                      have H1 : Hid ((L[c].toNat : Int) = 48) := c1
                      have hne : a < c := by
                        rcases Nat.lt_or_ge a c with h | h
                        · exact h
                        · obtain rfl : a = c := by omega
                          exact absurd c1 HA1.out
                      clear c1
                      go_wp2
                      go_round
                      case rel => exact ⟨c - 1, by omega, by omega, by go_num, fun i hi h => by
                        by_cases e : i = c
                        · subst e; exact H1.out
                        · exact HCZ.out i hi (by omega)⟩
                      case measure => first | (simp [intOf]; done) | (simp [intOf]; omega)
                    · have b2 : ((L[c].toNat : Int) == 48) = false := beq_eq_false_iff_ne.2 c1
                      have HC1 : Hid ((L[c].toNat : Int) ≠ 48) := c1
                      clear c1
                      have HM := model_L HCUT.out HL.out HI.out hac hcl HA.out HA1.out HCZ.out HC1.out hQ.out
                      have hcv := own_conv0 hown a (c + 1 - a) (C - a) (by omega)
                      have HX : Hid (PD t false ⟨((L.drop a).take (c + 1 - a)).toArray⟩ ((L.length : Int) - a) true) := by
                        have h1 := HM.1 (by omega)
                        rwa [scOf_pos (by omega)] at h1
                      clear HM
                      have hk1 : 0 < (L.length : Int) - (a : Int) := by omega
                      have hk2 : ¬ (L.length : Int) - (a : Int) < ((c + 1 - a : Nat) : Int) := by omega
                      generalize (⟨((L.drop a).take (c + 1 - a)).toArray⟩ : ByteArray) = G at hcv HX
                      go_wp2
                      refine bodyPost_ret (results_tmp4 rfl _ _ _) rfl ?_
                      exact ⟨gives4D HX.out, hbel⟩
              · obtain rfl : a = L.length := by omega
                have HX : Hid (PD _ false ByteArray.empty 0 true) := zero_L HCUT.out HL.out HI.out hnpos (fun i hi => HA.out i hi hi)
                go_wp2
                refine bodyPost_ret (results_tmp4 rfl _ _ _) rfl ?_
                exact ⟨gives4D HX.out, hbel⟩
          · have hQ : Hid (p = ptOr p t.size) := by
              show p = ptOr p t.size
              rw [ptOr_pos hp]
            clear HTOT
            go_wp2
            go_loop [12] (fun av => ∃ a : Nat, a ≤ L.length ∧ av = .int .i64 a ∧ ∀ i (hi : i < L.length), i < a → (L[i].toNat : Int) = 48) (fun av => L.length - (intOf av).toNat)
            case atStart => exact ⟨0, Nat.zero_le _, rfl, by omega⟩
            case round =>
              obtain ⟨a, ha, rfl, hall⟩ := hrel
              have HA : Hid (∀ i (hi : i < L.length), i < a → (L[i].toNat : Int) = 48) := hall
              clear hall
              by_cases hal : a < L.length
              · have hal' : (a : Int) < (L.length : Int) := by omega
                have hca := own_cell hown hal
                by_cases c1 : (L[a].toNat : Int) = 48
                · have b1 : ((L[a].toNat : Int) == 48) = true := beq_iff_eq.2 c1
                  have H1 : Hid ((L[a].toNat : Int) = 48) := c1
                  clear c1
                  go_wp2
                  go_round
                  case rel => exact ⟨a + 1, by omega, by go_num, fun i hi h => by
                    by_cases e : i = a
                    · subst e; exact H1.out
                    · exact HA.out i hi (by omega)⟩
                  case measure => simp [intOf]; omega
                · have b1 : ((L[a].toNat : Int) == 48) = false := beq_eq_false_iff_ne.2 c1
                  have HA1 : Hid ((L[a].toNat : Int) ≠ 48) := c1
                  clear c1
                  have bal : ((a : Int) == (L.length : Int)) = false := beq_eq_false_iff_ne.2 (by omega)
                  go_wp2
                  go_loop [13] (fun bv => ∃ c : Nat, a ≤ c ∧ c < L.length ∧ bv = .int .i64 ((c : Int) + 1) ∧ ∀ i (hi : i < L.length), c < i → (L[i].toNat : Int) = 48) (fun bv => (intOf bv).toNat)
                  case atStart => exact ⟨L.length - 1, by omega, by omega, by go_num, fun i hi h => by omega⟩
                  case round =>
                    obtain ⟨c, hac, hcl, rfl, hall⟩ := hrel
                    have HCZ : Hid (∀ i (hi : i < L.length), c < i → (L[i].toNat : Int) = 48) := hall
                    clear hall
                    have hcc := own_cell hown hcl
                    by_cases c1 : (L[c].toNat : Int) = 48
                    · have b2 : ((L[c].toNat : Int) == 48) = true := beq_iff_eq.2 c1
                      have H1 : Hid ((L[c].toNat : Int) = 48) := c1
                      have hne : a < c := by
                        rcases Nat.lt_or_ge a c with h | h
                        · exact h
                        · obtain rfl : a = c := by omega
                          exact absurd c1 HA1.out
                      clear c1
                      go_wp2
                      go_round
                      case rel => exact ⟨c - 1, by omega, by omega, by go_num, fun i hi h => by
                        by_cases e : i = c
                        · subst e; exact H1.out
                        · exact HCZ.out i hi (by omega)⟩
                      case measure => first | (simp [intOf]; done) | (simp [intOf]; omega)
                    · have b2 : ((L[c].toNat : Int) == 48) = false := beq_eq_false_iff_ne.2 c1
                      have HC1 : Hid ((L[c].toNat : Int) ≠ 48) := c1
                      clear c1
                      obtain ⟨pn, hpn⟩ := Int.eq_ofNat_of_zero_le (by omega : 0 ≤ p)
                      subst hpn
                      have HM := model_L HCUT.out HL.out HI.out hac hcl HA.out HA1.out HCZ.out HC1.out hQ.out
                      rw [Int.toNat_natCast] at HM
                      have hcv := own_conv0 hown a (c + 1 - a) (C - a) (by omega)
                      by_cases k1 : (pn : Int) - (a : Int) ≤ 0
                      · have HX : Hid (PD t false ⟨((L.drop a).take (c + 1 - a)).toArray⟩ ((pn : Int) - a - 1) true) := by
                          have h1 := HM.1 (by omega)
                          rwa [scOf_np k1] at h1
                        clear HM
                        generalize (⟨((L.drop a).take (c + 1 - a)).toArray⟩ : ByteArray) = G at hcv HX
                        go_wp2
                        refine bodyPost_ret (results_tmp4 rfl _ _ _) rfl ?_
                        exact ⟨gives4D HX.out, hbel⟩
                      · have k1' : 0 < (pn : Int) - (a : Int) := by omega
                        by_cases k2 : (pn : Int) - (a : Int) < ((c + 1 - a : Nat) : Int)
                        · have HX : Hid (PD t false (⟨((L.drop a).take (pn - a)).toArray⟩ ++ ⟨#[46]⟩ ++ ⟨((L.drop (a + (pn - a))).take (c + 1 - a - (pn - a))).toArray⟩) ((pn : Int) - a) true) := by
                            have h1 := HM.2 ⟨k1', k2⟩
                            rw [scOf_pos k1] at h1
                            rw [show a + (pn - a) = pn by omega, show c + 1 - a - (pn - a) = c + 1 - pn by omega]
                            exact h1
                          clear HM
                          have hcv1 := own_conv1 hown a (pn - a) (C - a) (by omega)
                          have hcv2 := own_conv1 hown (a + (pn - a)) (c + 1 - a - (pn - a)) (C - a - (pn - a)) (by omega)
                          have hg1 : (⟨((L.drop a).take (pn - a)).toArray⟩ : ByteArray).size ≤ 1048576 := by rw [mk_size]; simp; omega
                          have hg2 : (⟨((L.drop (a + (pn - a))).take (c + 1 - a - (pn - a))).toArray⟩ : ByteArray).size ≤ 1048576 := by rw [mk_size]; simp; omega
                          generalize (⟨((L.drop a).take (c + 1 - a)).toArray⟩ : ByteArray) = G at hcv
                          generalize (⟨((L.drop a).take (pn - a)).toArray⟩ : ByteArray) = G1 at hcv1 HX hg1
                          generalize (⟨((L.drop (a + (pn - a))).take (c + 1 - a - (pn - a))).toArray⟩ : ByteArray) = G2 at hcv2 HX hg2
                          have hg3 : (G1 ++ ⟨#[46]⟩ : ByteArray).size ≤ 1048577 := by rw [ByteArray.size_append]; exact Nat.add_le_add hg1 (Nat.le_refl 1)
                          have j3 : (pn : Int) - (a : Int) ≤ ((C - a : Nat) : Int) := by omega
                          have j4 : (pn : Int) - (a : Int) ≤ ((c + 1 - a : Nat) : Int) := by omega
                          go_wp2
                          go_region
                          go_wp2
                          refine bodyPost_ret (results_tmp4 rfl _ _ _) rfl ?_
                          exact ⟨gives4D HX.out, hbel.drew⟩
                        · have HX : Hid (PD t false ⟨((L.drop a).take (c + 1 - a)).toArray⟩ ((pn : Int) - a) true) := by
                            have h1 := HM.1 (by omega)
                            rwa [scOf_pos k1] at h1
                          clear HM
                          generalize (⟨((L.drop a).take (c + 1 - a)).toArray⟩ : ByteArray) = G at hcv HX
                          go_wp2
                          refine bodyPost_ret (results_tmp4 rfl _ _ _) rfl ?_
                          exact ⟨gives4D HX.out, hbel⟩
              · obtain rfl : a = L.length := by omega
                have HX : Hid (PD _ false ByteArray.empty 0 true) := zero_L HCUT.out HL.out HI.out hnpos (fun i hi => HA.out i hi hi)
                go_wp2
                refine bodyPost_ret (results_tmp4 rfl _ _ _) rfl ?_
                exact ⟨gives4D HX.out, hbel⟩
  · have HCUT : Hid (Cut s false (s.extract 1 s.size)) := .inl ⟨h0, by rw [bAt_in h0]; exact c1, rfl, rfl⟩
    have hnp : (0 : Int) < (s.size : Int) := by omega
    have hle' : (1 : Int) ≤ (s.size : Int) := by omega
    have b1 : ((s[0].toNat : Int) == 43) = true := beq_iff_eq.2 c1
    have b2 : ((s[0].toNat : Int) == 45) = false := beq_eq_false_iff_ne.2 (by omega)
    clear c1
    obtain ⟨C, hC⟩ : ∃ C, C = s.size - 1 := ⟨_, rfl⟩
    have HC : Hid (C = s.size - 1) := hC
    clear hC
    go_enter Try.func16, Try.ntmps16
    go_wp2_with (first | (at_make; go_must (refine wpList_make_own _ rfl _ _ 36 rfl w.heap.size 5 i0 (.int .u8 0) 1 Try.underlying36 hi hz0 hz1 .i64 .i64 _ C rfl rfl (by have := HC.out; omega) (by rw [hz2]; have := HC.out; omega) (by have := HC.out; unfold maxLen; omega) (Nat.le_refl _) ?_; intro w1 hown1 hgrow1)))
    clear b1 b2 hnp hle'
    have hcap : (s.extract 1 s.size).size ≤ C := by have := HC.out; simp; omega
    have hts : (s.extract 1 s.size).size ≤ 1048576 := by simp; omega
    generalize s.extract 1 s.size = t at *
    clear HC
    have hB1 : Below w.heap.size w w1 := (Below.refl _ _).grown hgrow1 (Nat.le_refl _) (fun _ h => by cases h)
    clear hgrow1
    go_loopw [8, 9, 10] (fun ds pv iv wr => ∃ (k : Nat) (p : Int) (L : List UInt8), k ≤ t.size ∧ iv = .int .i64 k ∧ pv = .int .i64 p ∧ ds = .slice (some ⟨w.heap.size, 0, none⟩) L.length C ∧ wr.ownsRow w.heap.size 5 1 (.slice (some ⟨w.heap.size, 0, none⟩) L.length C) L.length (cls L) ∧ Below w.heap.size w wr ∧ L = Ld t k p ∧ MInv t k p) (fun _ _ iv _ => t.size - (intOf iv).toNat)
    case atStart => exact ⟨0, -1, [], Nat.zero_le _, rfl, rfl, rfl, hown1, hB1, by simp [Ld], minv_zero t⟩
    case round =>
      clear hown1 hB1
      obtain ⟨k, p, L, hk, rfl, rfl, rfl, hown, hbel, hL, hinv⟩ := hrel
      have hpb := minv_bd hinv
      have hLlen : L.length = if p < 0 then k else k - 1 := by rw [hL]; exact Ld_len hk hpb.2
      have hLk : L.length ≤ k := by split at hLlen <;> omega
      have HLEN : Hid (L.length = if p < 0 then k else k - 1) := hLlen
      have HL : Hid (L = Ld t k p) := hL
      have HI : Hid (MInv t k p) := hinv
      clear hLlen hL hinv
      by_cases hlt : k < t.size
      · have HK : Hid (bAt t k = (t[k].toNat : Int)) := bAt_in hlt
        by_cases c1 : isD (t[k].toNat : Int)
        · have HCD : Hid (isD (t[k].toNat : Int)) := c1
          clear c1
          have hws : w.heap.size ≤ wr.heap.size := hbel.size
          go_wp2_with (first | (go_at_call 31; refine (dig_yes _ _ HCD.out).mono ?_; rintro e w' ⟨rfl, hw'⟩; rw [hw']; clear hw') | (at_builtin; go_must (refine wpList_append_fits _ rfl _ _ 36 rfl w.heap.size 5 i0 1 Try.underlying36 hi hz1 w.heap.size L.length C (cls L) rfl (hown.alloc _) ⟨wr.heap.size, 0, none⟩ 1 1 [.int .u8 (t[k].toNat : Int)] rfl rfl (cell_one_new _ _ _) (by simp [Value.oneCell']) (by omega) ?_; intro w2 hown2 hgrow2)))
          go_roundw
          case rel => exact ⟨k + 1, p, L ++ [t[k]], by omega, by go_num, rfl, by simp, by simpa [cls_app, cls] using hown2, (hbel.alloc hws _).grown hgrow2 (by simp; omega) (fun j hj => by cases hj; exact Nat.le_refl _), by rw [HL.out]; exact (Ld_digit hlt hpb.2).symm, minv_digit HI.out (by rw [HK.out]; exact HCD.out)⟩
          case measure => simp [intOf]; omega
        · have HCD : Hid (¬ isD (t[k].toNat : Int)) := c1
          clear c1
          by_cases c2 : (t[k].toNat : Int) = 46
          · have b46 : ((t[k].toNat : Int) == 46) = true := beq_iff_eq.2 c2
            have H46 : Hid (bAt t k = 46) := HK.out.trans c2
            clear c2
            by_cases hp : p < 0
            · have hLk' : L.length = k := by have := HLEN.out; rw [if_pos hp] at this; exact this
              have HLK : Hid (L.length = k) := hLk'
              clear hLk'
              go_wp2_with (first | (go_at_call 31; refine (dig_no _ _ HCD.out).mono ?_; rintro e w' ⟨rfl, hw'⟩; rw [hw']; clear hw'))
              go_roundw
              case rel => exact ⟨k + 1, k, L, by omega, by go_num, by rw [HLK.out], rfl, hown, hbel, by rw [HL.out]; exact (Ld_point hp).symm, minv_point HI.out H46.out hp⟩
              case measure => simp [intOf]; omega
            · have HX : Hid (PD _ false ByteArray.empty 0 false) := ret_ref.out _ _ _ HCUT.out (minv_bad HI.out hlt (by rw [HK.out]; exact HCD.out) (fun _ => by omega))
              go_wp2_with (first | (go_at_call 31; refine (dig_no _ _ HCD.out).mono ?_; rintro e w' ⟨rfl, hw'⟩; rw [hw']; clear hw'))
              refine bodyPost_ret (results_tmp4 rfl _ _ _) rfl ?_
              exact ⟨gives4D HX.out, hbel⟩
          · have b46 : ((t[k].toNat : Int) == 46) = false := beq_eq_false_iff_ne.2 c2
            have HX : Hid (PD _ false ByteArray.empty 0 false) := ret_ref.out _ _ _ HCUT.out (minv_bad HI.out hlt (by rw [HK.out]; exact HCD.out) (fun h => absurd (HK.out.symm.trans h) c2))
            clear c2
            go_wp2_with (first | (go_at_call 31; refine (dig_no _ _ HCD.out).mono ?_; rintro e w' ⟨rfl, hw'⟩; rw [hw']; clear hw'))
            refine bodyPost_ret (results_tmp4 rfl _ _ _) rfl ?_
            exact ⟨gives4D HX.out, hbel⟩
      · obtain rfl : k = t.size := by omega
        by_cases hn0 : L.length = 0
        · have bn : ((L.length : Int) == 0) = true := beq_iff_eq.2 (by omega)
          have HX : Hid (PD _ false ByteArray.empty 0 false) := ret_ref.out _ _ _ HCUT.out (not_acc_L HL.out HI.out hn0)
          have HN : Hid (L.length = 0) := hn0
          clear hn0
          go_wp2
          refine bodyPost_ret (results_tmp4 rfl _ _ _) rfl ?_
          exact ⟨gives4D HX.out, hbel⟩
        · have bn : ((L.length : Int) == 0) = false := beq_eq_false_iff_ne.2 (by omega)
          have hnpos : 0 < L.length := by omega
          have HTOT := total_L HL.out HI.out
          have hQb : 0 ≤ ptOr p t.size ∧ ptOr p t.size ≤ t.size := by unfold ptOr; split <;> omega
          by_cases hp : p < 0
          · have hQ : Hid ((L.length : Int) = ptOr p t.size) := by
              have h1 := HLEN.out
              rw [if_pos hp] at h1
              show (L.length : Int) = ptOr p t.size
              rw [ptOr_neg hp, h1]
            clear HTOT
            go_wp2
            go_loop [12] (fun av => ∃ a : Nat, a ≤ L.length ∧ av = .int .i64 a ∧ ∀ i (hi : i < L.length), i < a → (L[i].toNat : Int) = 48) (fun av => L.length - (intOf av).toNat)
            case atStart => exact ⟨0, Nat.zero_le _, rfl, by omega⟩
            case round =>
              obtain ⟨a, ha, rfl, hall⟩ := hrel
              have HA : Hid (∀ i (hi : i < L.length), i < a → (L[i].toNat : Int) = 48) := hall
              clear hall
              by_cases hal : a < L.length
              · have hal' : (a : Int) < (L.length : Int) := by omega
                have hca := own_cell hown hal
                by_cases c1 : (L[a].toNat : Int) = 48
                · have b1 : ((L[a].toNat : Int) == 48) = true := beq_iff_eq.2 c1
                  have H1 : Hid ((L[a].toNat : Int) = 48) := c1
                  clear c1
                  go_wp2
                  go_round
                  case rel => exact ⟨a + 1, by omega, by go_num, fun i hi h => by
                    by_cases e : i = a
                    · subst e; exact H1.out
                    · exact HA.out i hi (by omega)⟩
                  case measure => simp [intOf]; omega
                · have b1 : ((L[a].toNat : Int) == 48) = false := beq_eq_false_iff_ne.2 c1
                  have HA1 : Hid ((L[a].toNat : Int) ≠ 48) := c1
                  clear c1
                  have bal : ((a : Int) == (L.length : Int)) = false := beq_eq_false_iff_ne.2 (by omega)
                  go_wp2
                  go_loop [13] (fun bv => ∃ c : Nat, a ≤ c ∧ c < L.length ∧ bv = .int .i64 ((c : Int) + 1) ∧ ∀ i (hi : i < L.length), c < i → (L[i].toNat : Int) = 48) (fun bv => (intOf bv).toNat)
                  case atStart => exact ⟨L.length - 1, by omega, by omega, by go_num, fun i hi h => by omega⟩
                  case round =>
                    obtain ⟨c, hac, hcl, rfl, hall⟩ := hrel
                    have HCZ : Hid (∀ i (hi : i < L.length), c < i → (L[i].toNat : Int) = 48) := hall
                    clear hall
                    have hcc := own_cell hown hcl
                    by_cases c1 : (L[c].toNat : Int) = 48
                    · have b2 : ((L[c].toNat : Int) == 48) = true := beq_iff_eq.2 c1
                      have H1 : Hid ((L[c].toNat : Int) = 48) := c1
                      have hne : a < c := by
                        rcases Nat.lt_or_ge a c with h | h
                        · exact h
                        · obtain rfl : a = c := by omega
                          exact absurd c1 HA1.out
                      clear c1
                      go_wp2
                      go_round
                      case rel => exact ⟨c - 1, by omega, by omega, by go_num, fun i hi h => by
                        by_cases e : i = c
                        · subst e; exact H1.out
                        · exact HCZ.out i hi (by omega)⟩
                      case measure => first | (simp [intOf]; done) | (simp [intOf]; omega)
                    · have b2 : ((L[c].toNat : Int) == 48) = false := beq_eq_false_iff_ne.2 c1
                      have HC1 : Hid ((L[c].toNat : Int) ≠ 48) := c1
                      clear c1
                      have HM := model_L HCUT.out HL.out HI.out hac hcl HA.out HA1.out HCZ.out HC1.out hQ.out
                      have hcv := own_conv0 hown a (c + 1 - a) (C - a) (by omega)
                      have HX : Hid (PD s false ⟨((L.drop a).take (c + 1 - a)).toArray⟩ ((L.length : Int) - a) true) := by
                        have h1 := HM.1 (by omega)
                        rwa [scOf_pos (by omega)] at h1
                      clear HM
                      have hk1 : 0 < (L.length : Int) - (a : Int) := by omega
                      have hk2 : ¬ (L.length : Int) - (a : Int) < ((c + 1 - a : Nat) : Int) := by omega
                      generalize (⟨((L.drop a).take (c + 1 - a)).toArray⟩ : ByteArray) = G at hcv HX
                      go_wp2
                      refine bodyPost_ret (results_tmp4 rfl _ _ _) rfl ?_
                      exact ⟨gives4D HX.out, hbel⟩
              · obtain rfl : a = L.length := by omega
                have HX : Hid (PD _ false ByteArray.empty 0 true) := zero_L HCUT.out HL.out HI.out hnpos (fun i hi => HA.out i hi hi)
                go_wp2
                refine bodyPost_ret (results_tmp4 rfl _ _ _) rfl ?_
                exact ⟨gives4D HX.out, hbel⟩
          · have hQ : Hid (p = ptOr p t.size) := by
              show p = ptOr p t.size
              rw [ptOr_pos hp]
            clear HTOT
            go_wp2
            go_loop [12] (fun av => ∃ a : Nat, a ≤ L.length ∧ av = .int .i64 a ∧ ∀ i (hi : i < L.length), i < a → (L[i].toNat : Int) = 48) (fun av => L.length - (intOf av).toNat)
            case atStart => exact ⟨0, Nat.zero_le _, rfl, by omega⟩
            case round =>
              obtain ⟨a, ha, rfl, hall⟩ := hrel
              have HA : Hid (∀ i (hi : i < L.length), i < a → (L[i].toNat : Int) = 48) := hall
              clear hall
              by_cases hal : a < L.length
              · have hal' : (a : Int) < (L.length : Int) := by omega
                have hca := own_cell hown hal
                by_cases c1 : (L[a].toNat : Int) = 48
                · have b1 : ((L[a].toNat : Int) == 48) = true := beq_iff_eq.2 c1
                  have H1 : Hid ((L[a].toNat : Int) = 48) := c1
                  clear c1
                  go_wp2
                  go_round
                  case rel => exact ⟨a + 1, by omega, by go_num, fun i hi h => by
                    by_cases e : i = a
                    · subst e; exact H1.out
                    · exact HA.out i hi (by omega)⟩
                  case measure => simp [intOf]; omega
                · have b1 : ((L[a].toNat : Int) == 48) = false := beq_eq_false_iff_ne.2 c1
                  have HA1 : Hid ((L[a].toNat : Int) ≠ 48) := c1
                  clear c1
                  have bal : ((a : Int) == (L.length : Int)) = false := beq_eq_false_iff_ne.2 (by omega)
                  go_wp2
                  go_loop [13] (fun bv => ∃ c : Nat, a ≤ c ∧ c < L.length ∧ bv = .int .i64 ((c : Int) + 1) ∧ ∀ i (hi : i < L.length), c < i → (L[i].toNat : Int) = 48) (fun bv => (intOf bv).toNat)
                  case atStart => exact ⟨L.length - 1, by omega, by omega, by go_num, fun i hi h => by omega⟩
                  case round =>
                    obtain ⟨c, hac, hcl, rfl, hall⟩ := hrel
                    have HCZ : Hid (∀ i (hi : i < L.length), c < i → (L[i].toNat : Int) = 48) := hall
                    clear hall
                    have hcc := own_cell hown hcl
                    by_cases c1 : (L[c].toNat : Int) = 48
                    · have b2 : ((L[c].toNat : Int) == 48) = true := beq_iff_eq.2 c1
                      have H1 : Hid ((L[c].toNat : Int) = 48) := c1
                      have hne : a < c := by
                        rcases Nat.lt_or_ge a c with h | h
                        · exact h
                        · obtain rfl : a = c := by omega
                          exact absurd c1 HA1.out
                      clear c1
                      go_wp2
                      go_round
                      case rel => exact ⟨c - 1, by omega, by omega, by go_num, fun i hi h => by
                        by_cases e : i = c
                        · subst e; exact H1.out
                        · exact HCZ.out i hi (by omega)⟩
                      case measure => first | (simp [intOf]; done) | (simp [intOf]; omega)
                    · have b2 : ((L[c].toNat : Int) == 48) = false := beq_eq_false_iff_ne.2 c1
                      have HC1 : Hid ((L[c].toNat : Int) ≠ 48) := c1
                      clear c1
                      obtain ⟨pn, hpn⟩ := Int.eq_ofNat_of_zero_le (by omega : 0 ≤ p)
                      subst hpn
                      have HM := model_L HCUT.out HL.out HI.out hac hcl HA.out HA1.out HCZ.out HC1.out hQ.out
                      rw [Int.toNat_natCast] at HM
                      have hcv := own_conv0 hown a (c + 1 - a) (C - a) (by omega)
                      by_cases k1 : (pn : Int) - (a : Int) ≤ 0
                      · have HX : Hid (PD s false ⟨((L.drop a).take (c + 1 - a)).toArray⟩ ((pn : Int) - a - 1) true) := by
                          have h1 := HM.1 (by omega)
                          rwa [scOf_np k1] at h1
                        clear HM
                        generalize (⟨((L.drop a).take (c + 1 - a)).toArray⟩ : ByteArray) = G at hcv HX
                        go_wp2
                        refine bodyPost_ret (results_tmp4 rfl _ _ _) rfl ?_
                        exact ⟨gives4D HX.out, hbel⟩
                      · have k1' : 0 < (pn : Int) - (a : Int) := by omega
                        by_cases k2 : (pn : Int) - (a : Int) < ((c + 1 - a : Nat) : Int)
                        · have HX : Hid (PD s false (⟨((L.drop a).take (pn - a)).toArray⟩ ++ ⟨#[46]⟩ ++ ⟨((L.drop (a + (pn - a))).take (c + 1 - a - (pn - a))).toArray⟩) ((pn : Int) - a) true) := by
                            have h1 := HM.2 ⟨k1', k2⟩
                            rw [scOf_pos k1] at h1
                            rw [show a + (pn - a) = pn by omega, show c + 1 - a - (pn - a) = c + 1 - pn by omega]
                            exact h1
                          clear HM
                          have hcv1 := own_conv1 hown a (pn - a) (C - a) (by omega)
                          have hcv2 := own_conv1 hown (a + (pn - a)) (c + 1 - a - (pn - a)) (C - a - (pn - a)) (by omega)
                          have hg1 : (⟨((L.drop a).take (pn - a)).toArray⟩ : ByteArray).size ≤ 1048576 := by rw [mk_size]; simp; omega
                          have hg2 : (⟨((L.drop (a + (pn - a))).take (c + 1 - a - (pn - a))).toArray⟩ : ByteArray).size ≤ 1048576 := by rw [mk_size]; simp; omega
                          generalize (⟨((L.drop a).take (c + 1 - a)).toArray⟩ : ByteArray) = G at hcv
                          generalize (⟨((L.drop a).take (pn - a)).toArray⟩ : ByteArray) = G1 at hcv1 HX hg1
                          generalize (⟨((L.drop (a + (pn - a))).take (c + 1 - a - (pn - a))).toArray⟩ : ByteArray) = G2 at hcv2 HX hg2
                          have hg3 : (G1 ++ ⟨#[46]⟩ : ByteArray).size ≤ 1048577 := by rw [ByteArray.size_append]; exact Nat.add_le_add hg1 (Nat.le_refl 1)
                          have j3 : (pn : Int) - (a : Int) ≤ ((C - a : Nat) : Int) := by omega
                          have j4 : (pn : Int) - (a : Int) ≤ ((c + 1 - a : Nat) : Int) := by omega
                          go_wp2
                          go_region
                          go_wp2
                          refine bodyPost_ret (results_tmp4 rfl _ _ _) rfl ?_
                          exact ⟨gives4D HX.out, hbel.drew⟩
                        · have HX : Hid (PD s false ⟨((L.drop a).take (c + 1 - a)).toArray⟩ ((pn : Int) - a) true) := by
                            have h1 := HM.1 (by omega)
                            rwa [scOf_pos k1] at h1
                          clear HM
                          generalize (⟨((L.drop a).take (c + 1 - a)).toArray⟩ : ByteArray) = G at hcv HX
                          go_wp2
                          refine bodyPost_ret (results_tmp4 rfl _ _ _) rfl ?_
                          exact ⟨gives4D HX.out, hbel⟩
              · obtain rfl : a = L.length := by omega
                have HX : Hid (PD _ false ByteArray.empty 0 true) := zero_L HCUT.out HL.out HI.out hnpos (fun i hi => HA.out i hi hi)
                go_wp2
                refine bodyPost_ret (results_tmp4 rfl _ _ _) rfl ?_
                exact ⟨gives4D HX.out, hbel⟩
  · have HCUT : Hid (Cut s true (s.extract 1 s.size)) := .inr (.inl ⟨h0, by rw [bAt_in h0]; exact c1, rfl, rfl⟩)
    have hnp : (0 : Int) < (s.size : Int) := by omega
    have hle' : (1 : Int) ≤ (s.size : Int) := by omega
    have b1 : ((s[0].toNat : Int) == 43) = false := beq_eq_false_iff_ne.2 (by omega)
    have b2 : ((s[0].toNat : Int) == 45) = true := beq_iff_eq.2 c1
    clear c1
    obtain ⟨C, hC⟩ : ∃ C, C = s.size - 1 := ⟨_, rfl⟩
    have HC : Hid (C = s.size - 1) := hC
    clear hC
    go_enter Try.func16, Try.ntmps16
    go_wp2_with (first | (at_make; go_must (refine wpList_make_own _ rfl _ _ 36 rfl w.heap.size 5 i0 (.int .u8 0) 1 Try.underlying36 hi hz0 hz1 .i64 .i64 _ C rfl rfl (by have := HC.out; omega) (by rw [hz2]; have := HC.out; omega) (by have := HC.out; unfold maxLen; omega) (Nat.le_refl _) ?_; intro w1 hown1 hgrow1)))
    clear b1 b2 hnp hle'
    have hcap : (s.extract 1 s.size).size ≤ C := by have := HC.out; simp; omega
    have hts : (s.extract 1 s.size).size ≤ 1048576 := by simp; omega
    generalize s.extract 1 s.size = t at *
    clear HC
    have hB1 : Below w.heap.size w w1 := (Below.refl _ _).grown hgrow1 (Nat.le_refl _) (fun _ h => by cases h)
    clear hgrow1
    go_loopw [8, 9, 10] (fun ds pv iv wr => ∃ (k : Nat) (p : Int) (L : List UInt8), k ≤ t.size ∧ iv = .int .i64 k ∧ pv = .int .i64 p ∧ ds = .slice (some ⟨w.heap.size, 0, none⟩) L.length C ∧ wr.ownsRow w.heap.size 5 1 (.slice (some ⟨w.heap.size, 0, none⟩) L.length C) L.length (cls L) ∧ Below w.heap.size w wr ∧ L = Ld t k p ∧ MInv t k p) (fun _ _ iv _ => t.size - (intOf iv).toNat)
    case atStart => exact ⟨0, -1, [], Nat.zero_le _, rfl, rfl, rfl, hown1, hB1, by simp [Ld], minv_zero t⟩
    case round =>
      clear hown1 hB1
      obtain ⟨k, p, L, hk, rfl, rfl, rfl, hown, hbel, hL, hinv⟩ := hrel
      have hpb := minv_bd hinv
      have hLlen : L.length = if p < 0 then k else k - 1 := by rw [hL]; exact Ld_len hk hpb.2
      have hLk : L.length ≤ k := by split at hLlen <;> omega
      have HLEN : Hid (L.length = if p < 0 then k else k - 1) := hLlen
      have HL : Hid (L = Ld t k p) := hL
      have HI : Hid (MInv t k p) := hinv
      clear hLlen hL hinv
      by_cases hlt : k < t.size
      · have HK : Hid (bAt t k = (t[k].toNat : Int)) := bAt_in hlt
        by_cases c1 : isD (t[k].toNat : Int)
        · have HCD : Hid (isD (t[k].toNat : Int)) := c1
          clear c1
          have hws : w.heap.size ≤ wr.heap.size := hbel.size
          go_wp2_with (first | (go_at_call 31; refine (dig_yes _ _ HCD.out).mono ?_; rintro e w' ⟨rfl, hw'⟩; rw [hw']; clear hw') | (at_builtin; go_must (refine wpList_append_fits _ rfl _ _ 36 rfl w.heap.size 5 i0 1 Try.underlying36 hi hz1 w.heap.size L.length C (cls L) rfl (hown.alloc _) ⟨wr.heap.size, 0, none⟩ 1 1 [.int .u8 (t[k].toNat : Int)] rfl rfl (cell_one_new _ _ _) (by simp [Value.oneCell']) (by omega) ?_; intro w2 hown2 hgrow2)))
          go_roundw
          case rel => exact ⟨k + 1, p, L ++ [t[k]], by omega, by go_num, rfl, by simp, by simpa [cls_app, cls] using hown2, (hbel.alloc hws _).grown hgrow2 (by simp; omega) (fun j hj => by cases hj; exact Nat.le_refl _), by rw [HL.out]; exact (Ld_digit hlt hpb.2).symm, minv_digit HI.out (by rw [HK.out]; exact HCD.out)⟩
          case measure => simp [intOf]; omega
        · have HCD : Hid (¬ isD (t[k].toNat : Int)) := c1
          clear c1
          by_cases c2 : (t[k].toNat : Int) = 46
          · have b46 : ((t[k].toNat : Int) == 46) = true := beq_iff_eq.2 c2
            have H46 : Hid (bAt t k = 46) := HK.out.trans c2
            clear c2
            by_cases hp : p < 0
            · have hLk' : L.length = k := by have := HLEN.out; rw [if_pos hp] at this; exact this
              have HLK : Hid (L.length = k) := hLk'
              clear hLk'
              go_wp2_with (first | (go_at_call 31; refine (dig_no _ _ HCD.out).mono ?_; rintro e w' ⟨rfl, hw'⟩; rw [hw']; clear hw'))
              go_roundw
              case rel => exact ⟨k + 1, k, L, by omega, by go_num, by rw [HLK.out], rfl, hown, hbel, by rw [HL.out]; exact (Ld_point hp).symm, minv_point HI.out H46.out hp⟩
              case measure => simp [intOf]; omega
            · have HX : Hid (PD _ false ByteArray.empty 0 false) := ret_ref.out _ _ _ HCUT.out (minv_bad HI.out hlt (by rw [HK.out]; exact HCD.out) (fun _ => by omega))
              go_wp2_with (first | (go_at_call 31; refine (dig_no _ _ HCD.out).mono ?_; rintro e w' ⟨rfl, hw'⟩; rw [hw']; clear hw'))
              refine bodyPost_ret (results_tmp4 rfl _ _ _) rfl ?_
              exact ⟨gives4D HX.out, hbel⟩
          · have b46 : ((t[k].toNat : Int) == 46) = false := beq_eq_false_iff_ne.2 c2
            have HX : Hid (PD _ false ByteArray.empty 0 false) := ret_ref.out _ _ _ HCUT.out (minv_bad HI.out hlt (by rw [HK.out]; exact HCD.out) (fun h => absurd (HK.out.symm.trans h) c2))
            clear c2
            go_wp2_with (first | (go_at_call 31; refine (dig_no _ _ HCD.out).mono ?_; rintro e w' ⟨rfl, hw'⟩; rw [hw']; clear hw'))
            refine bodyPost_ret (results_tmp4 rfl _ _ _) rfl ?_
            exact ⟨gives4D HX.out, hbel⟩
      · obtain rfl : k = t.size := by omega
        by_cases hn0 : L.length = 0
        · have bn : ((L.length : Int) == 0) = true := beq_iff_eq.2 (by omega)
          have HX : Hid (PD _ false ByteArray.empty 0 false) := ret_ref.out _ _ _ HCUT.out (not_acc_L HL.out HI.out hn0)
          have HN : Hid (L.length = 0) := hn0
          clear hn0
          go_wp2
          refine bodyPost_ret (results_tmp4 rfl _ _ _) rfl ?_
          exact ⟨gives4D HX.out, hbel⟩
        · have bn : ((L.length : Int) == 0) = false := beq_eq_false_iff_ne.2 (by omega)
          have hnpos : 0 < L.length := by omega
          have HTOT := total_L HL.out HI.out
          have hQb : 0 ≤ ptOr p t.size ∧ ptOr p t.size ≤ t.size := by unfold ptOr; split <;> omega
          by_cases hp : p < 0
          · have hQ : Hid ((L.length : Int) = ptOr p t.size) := by
              have h1 := HLEN.out
              rw [if_pos hp] at h1
              show (L.length : Int) = ptOr p t.size
              rw [ptOr_neg hp, h1]
            clear HTOT
            go_wp2
            go_loop [12] (fun av => ∃ a : Nat, a ≤ L.length ∧ av = .int .i64 a ∧ ∀ i (hi : i < L.length), i < a → (L[i].toNat : Int) = 48) (fun av => L.length - (intOf av).toNat)
            case atStart => exact ⟨0, Nat.zero_le _, rfl, by omega⟩
            case round =>
              obtain ⟨a, ha, rfl, hall⟩ := hrel
              have HA : Hid (∀ i (hi : i < L.length), i < a → (L[i].toNat : Int) = 48) := hall
              clear hall
              by_cases hal : a < L.length
              · have hal' : (a : Int) < (L.length : Int) := by omega
                have hca := own_cell hown hal
                by_cases c1 : (L[a].toNat : Int) = 48
                · have b1 : ((L[a].toNat : Int) == 48) = true := beq_iff_eq.2 c1
                  have H1 : Hid ((L[a].toNat : Int) = 48) := c1
                  clear c1
                  go_wp2
                  go_round
                  case rel => exact ⟨a + 1, by omega, by go_num, fun i hi h => by
                    by_cases e : i = a
                    · subst e; exact H1.out
                    · exact HA.out i hi (by omega)⟩
                  case measure => simp [intOf]; omega
                · have b1 : ((L[a].toNat : Int) == 48) = false := beq_eq_false_iff_ne.2 c1
                  have HA1 : Hid ((L[a].toNat : Int) ≠ 48) := c1
                  clear c1
                  have bal : ((a : Int) == (L.length : Int)) = false := beq_eq_false_iff_ne.2 (by omega)
                  go_wp2
                  go_loop [13] (fun bv => ∃ c : Nat, a ≤ c ∧ c < L.length ∧ bv = .int .i64 ((c : Int) + 1) ∧ ∀ i (hi : i < L.length), c < i → (L[i].toNat : Int) = 48) (fun bv => (intOf bv).toNat)
                  case atStart => exact ⟨L.length - 1, by omega, by omega, by go_num, fun i hi h => by omega⟩
                  case round =>
                    obtain ⟨c, hac, hcl, rfl, hall⟩ := hrel
                    have HCZ : Hid (∀ i (hi : i < L.length), c < i → (L[i].toNat : Int) = 48) := hall
                    clear hall
                    have hcc := own_cell hown hcl
                    by_cases c1 : (L[c].toNat : Int) = 48
                    · have b2 : ((L[c].toNat : Int) == 48) = true := beq_iff_eq.2 c1
                      have H1 : Hid ((L[c].toNat : Int) = 48) := c1
                      have hne : a < c := by
                        rcases Nat.lt_or_ge a c with h | h
                        · exact h
                        · obtain rfl : a = c := by omega
                          exact absurd c1 HA1.out
                      clear c1
                      go_wp2
                      go_round
                      case rel => exact ⟨c - 1, by omega, by omega, by go_num, fun i hi h => by
                        by_cases e : i = c
                        · subst e; exact H1.out
                        · exact HCZ.out i hi (by omega)⟩
                      case measure => first | (simp [intOf]; done) | (simp [intOf]; omega)
                    · have b2 : ((L[c].toNat : Int) == 48) = false := beq_eq_false_iff_ne.2 c1
                      have HC1 : Hid ((L[c].toNat : Int) ≠ 48) := c1
                      clear c1
                      have HM := model_L HCUT.out HL.out HI.out hac hcl HA.out HA1.out HCZ.out HC1.out hQ.out
                      have hcv := own_conv0 hown a (c + 1 - a) (C - a) (by omega)
                      have HX : Hid (PD s true ⟨((L.drop a).take (c + 1 - a)).toArray⟩ ((L.length : Int) - a) true) := by
                        have h1 := HM.1 (by omega)
                        rwa [scOf_pos (by omega)] at h1
                      clear HM
                      have hk1 : 0 < (L.length : Int) - (a : Int) := by omega
                      have hk2 : ¬ (L.length : Int) - (a : Int) < ((c + 1 - a : Nat) : Int) := by omega
                      generalize (⟨((L.drop a).take (c + 1 - a)).toArray⟩ : ByteArray) = G at hcv HX
                      go_wp2
                      refine bodyPost_ret (results_tmp4 rfl _ _ _) rfl ?_
                      exact ⟨gives4D HX.out, hbel⟩
              · obtain rfl : a = L.length := by omega
                have HX : Hid (PD _ false ByteArray.empty 0 true) := zero_L HCUT.out HL.out HI.out hnpos (fun i hi => HA.out i hi hi)
                go_wp2
                refine bodyPost_ret (results_tmp4 rfl _ _ _) rfl ?_
                exact ⟨gives4D HX.out, hbel⟩
          · have hQ : Hid (p = ptOr p t.size) := by
              show p = ptOr p t.size
              rw [ptOr_pos hp]
            clear HTOT
            go_wp2
            go_loop [12] (fun av => ∃ a : Nat, a ≤ L.length ∧ av = .int .i64 a ∧ ∀ i (hi : i < L.length), i < a → (L[i].toNat : Int) = 48) (fun av => L.length - (intOf av).toNat)
            case atStart => exact ⟨0, Nat.zero_le _, rfl, by omega⟩
            case round =>
              obtain ⟨a, ha, rfl, hall⟩ := hrel
              have HA : Hid (∀ i (hi : i < L.length), i < a → (L[i].toNat : Int) = 48) := hall
              clear hall
              by_cases hal : a < L.length
              · have hal' : (a : Int) < (L.length : Int) := by omega
                have hca := own_cell hown hal
                by_cases c1 : (L[a].toNat : Int) = 48
                · have b1 : ((L[a].toNat : Int) == 48) = true := beq_iff_eq.2 c1
                  have H1 : Hid ((L[a].toNat : Int) = 48) := c1
                  clear c1
                  go_wp2
                  go_round
                  case rel => exact ⟨a + 1, by omega, by go_num, fun i hi h => by
                    by_cases e : i = a
                    · subst e; exact H1.out
                    · exact HA.out i hi (by omega)⟩
                  case measure => simp [intOf]; omega
                · have b1 : ((L[a].toNat : Int) == 48) = false := beq_eq_false_iff_ne.2 c1
                  have HA1 : Hid ((L[a].toNat : Int) ≠ 48) := c1
                  clear c1
                  have bal : ((a : Int) == (L.length : Int)) = false := beq_eq_false_iff_ne.2 (by omega)
                  go_wp2
                  go_loop [13] (fun bv => ∃ c : Nat, a ≤ c ∧ c < L.length ∧ bv = .int .i64 ((c : Int) + 1) ∧ ∀ i (hi : i < L.length), c < i → (L[i].toNat : Int) = 48) (fun bv => (intOf bv).toNat)
                  case atStart => exact ⟨L.length - 1, by omega, by omega, by go_num, fun i hi h => by omega⟩
                  case round =>
                    obtain ⟨c, hac, hcl, rfl, hall⟩ := hrel
                    have HCZ : Hid (∀ i (hi : i < L.length), c < i → (L[i].toNat : Int) = 48) := hall
                    clear hall
                    have hcc := own_cell hown hcl
                    by_cases c1 : (L[c].toNat : Int) = 48
                    · have b2 : ((L[c].toNat : Int) == 48) = true := beq_iff_eq.2 c1
                      have H1 : Hid ((L[c].toNat : Int) = 48) := c1
                      have hne : a < c := by
                        rcases Nat.lt_or_ge a c with h | h
                        · exact h
                        · obtain rfl : a = c := by omega
                          exact absurd c1 HA1.out
                      clear c1
                      go_wp2
                      go_round
                      case rel => exact ⟨c - 1, by omega, by omega, by go_num, fun i hi h => by
                        by_cases e : i = c
                        · subst e; exact H1.out
                        · exact HCZ.out i hi (by omega)⟩
                      case measure => first | (simp [intOf]; done) | (simp [intOf]; omega)
                    · have b2 : ((L[c].toNat : Int) == 48) = false := beq_eq_false_iff_ne.2 c1
                      have HC1 : Hid ((L[c].toNat : Int) ≠ 48) := c1
                      clear c1
                      obtain ⟨pn, hpn⟩ := Int.eq_ofNat_of_zero_le (by omega : 0 ≤ p)
                      subst hpn
                      have HM := model_L HCUT.out HL.out HI.out hac hcl HA.out HA1.out HCZ.out HC1.out hQ.out
                      rw [Int.toNat_natCast] at HM
                      have hcv := own_conv0 hown a (c + 1 - a) (C - a) (by omega)
                      by_cases k1 : (pn : Int) - (a : Int) ≤ 0
                      · have HX : Hid (PD s true ⟨((L.drop a).take (c + 1 - a)).toArray⟩ ((pn : Int) - a - 1) true) := by
                          have h1 := HM.1 (by omega)
                          rwa [scOf_np k1] at h1
                        clear HM
                        generalize (⟨((L.drop a).take (c + 1 - a)).toArray⟩ : ByteArray) = G at hcv HX
                        go_wp2
                        refine bodyPost_ret (results_tmp4 rfl _ _ _) rfl ?_
                        exact ⟨gives4D HX.out, hbel⟩
                      · have k1' : 0 < (pn : Int) - (a : Int) := by omega
                        by_cases k2 : (pn : Int) - (a : Int) < ((c + 1 - a : Nat) : Int)
                        · have HX : Hid (PD s true (⟨((L.drop a).take (pn - a)).toArray⟩ ++ ⟨#[46]⟩ ++ ⟨((L.drop (a + (pn - a))).take (c + 1 - a - (pn - a))).toArray⟩) ((pn : Int) - a) true) := by
                            have h1 := HM.2 ⟨k1', k2⟩
                            rw [scOf_pos k1] at h1
                            rw [show a + (pn - a) = pn by omega, show c + 1 - a - (pn - a) = c + 1 - pn by omega]
                            exact h1
                          clear HM
                          have hcv1 := own_conv1 hown a (pn - a) (C - a) (by omega)
                          have hcv2 := own_conv1 hown (a + (pn - a)) (c + 1 - a - (pn - a)) (C - a - (pn - a)) (by omega)
                          have hg1 : (⟨((L.drop a).take (pn - a)).toArray⟩ : ByteArray).size ≤ 1048576 := by rw [mk_size]; simp; omega
                          have hg2 : (⟨((L.drop (a + (pn - a))).take (c + 1 - a - (pn - a))).toArray⟩ : ByteArray).size ≤ 1048576 := by rw [mk_size]; simp; omega
                          generalize (⟨((L.drop a).take (c + 1 - a)).toArray⟩ : ByteArray) = G at hcv
                          generalize (⟨((L.drop a).take (pn - a)).toArray⟩ : ByteArray) = G1 at hcv1 HX hg1
                          generalize (⟨((L.drop (a + (pn - a))).take (c + 1 - a - (pn - a))).toArray⟩ : ByteArray) = G2 at hcv2 HX hg2
                          have hg3 : (G1 ++ ⟨#[46]⟩ : ByteArray).size ≤ 1048577 := by rw [ByteArray.size_append]; exact Nat.add_le_add hg1 (Nat.le_refl 1)
                          have j3 : (pn : Int) - (a : Int) ≤ ((C - a : Nat) : Int) := by omega
                          have j4 : (pn : Int) - (a : Int) ≤ ((c + 1 - a : Nat) : Int) := by omega
                          go_wp2
                          go_region
                          go_wp2
                          refine bodyPost_ret (results_tmp4 rfl _ _ _) rfl ?_
                          exact ⟨gives4D HX.out, hbel.drew⟩
                        · have HX : Hid (PD s true ⟨((L.drop a).take (c + 1 - a)).toArray⟩ ((pn : Int) - a) true) := by
                            have h1 := HM.1 (by omega)
                            rwa [scOf_pos k1] at h1
                          clear HM
                          generalize (⟨((L.drop a).take (c + 1 - a)).toArray⟩ : ByteArray) = G at hcv HX
                          go_wp2
                          refine bodyPost_ret (results_tmp4 rfl _ _ _) rfl ?_
                          exact ⟨gives4D HX.out, hbel⟩
              · obtain rfl : a = L.length := by omega
                have HX : Hid (PD _ false ByteArray.empty 0 true) := zero_L HCUT.out HL.out HI.out hnpos (fun i hi => HA.out i hi hi)
                go_wp2
                refine bodyPost_ret (results_tmp4 rfl _ _ _) rfl ?_
                exact ⟨gives4D HX.out, hbel⟩
end Go.Proofs.Qxb6601363a.Num
