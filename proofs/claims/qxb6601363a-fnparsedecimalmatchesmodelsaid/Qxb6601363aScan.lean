import Derived.Test.Qxb6601363aRows
import Derived.WalkKit
import Derived.WalkSpells
import Derived.WalkLawsBesides
import Derived.RowKit3
import Derived.WalkMore
import Derived.Deep.LoopGhost
import Derived.Test.Qxb6601363aScanPlain
namespace Go.Proofs.Qxb6601363a.Num
open Go.RowKit

theorem results_tmp4 {fn : Func} {t u v x : Tmp} (h : fn.results = #[.tmp t, .tmp u, .tmp v, .tmp x]) (tmps : Array Value) (P : Program) (w : World) :
    (results fn tmps).run P w = .ok (.tuple #[tmps.getD t undef, tmps.getD u undef, tmps.getD v undef, tmps.getD x undef]) w := by
  simp [results, h]

/-- the call gives three numbers and a bool that p holds of -/
def Gives4 (p : Int → Int → Int → Bool → Prop) (e : Ending) : Prop := ∃ a b c d, e = .returned (.tuple #[.int .i64 a, .int .i64 b, .int .i64 c, .bool d]) ∧ p a b c d
theorem gives4 {p : Int → Int → Int → Bool → Prop} {a b c : Int} {d : Bool} (h : p a b c d) : Gives4 p (.returned (.tuple #[.int .i64 a, .int .i64 b, .int .i64 c, .bool d])) := ⟨a, b, c, d, rfl, h⟩

theorem ptOr_neg {p : Int} {k : Nat} (h : p < 0) : ptOr p k = k := by unfold ptOr; rw [if_pos h]
theorem ptOr_pos {p : Int} {k : Nat} (h : ¬ p < 0) : ptOr p k = p := by unfold ptOr; rw [if_neg h]

theorem inv_bd {s : ByteArray} {k : Nat} {p f : Int} {ok : Bool} (h : Inv s k p f ok) : -1 ≤ p ∧ p < k ∧ -1 ≤ f ∧ f < k := by
  have h1 : -1 ≤ p ∧ p < k := by
    rcases h.pt with ⟨q, hq, rfl, _⟩ | ⟨rfl, _⟩ <;> omega
  have h2 : -1 ≤ f ∧ f < k := by
    rcases h.first with ⟨q, hq, rfl, _⟩ | ⟨rfl, _⟩ <;> omega
  omega

set_option maxHeartbeats 2000000 in
theorem scanW (s : ByteArray) (w : World) (hs : s.size ≤ 2000000) :
    Calls Try.prog 25 #[.string s] w fun e w' => Gives4 (Scan s) e ∧ w' = w := by
  go_enter Try.func25, Try.ntmps25
  go_wp2
  go_step3
  go_wp2
  go_step3
  go_wp2
  go_loop [2, 3, 4, 5, 6] (fun p f e o i => ∃ (k : Nat) (p' f' : Int) (o' : Bool), k ≤ s.size ∧ i = .int .i64 k ∧ p = .int .i64 p' ∧ f = .int .i64 f' ∧ e = .int .i64 s.size ∧ o = .bool o' ∧ Inv s k p' f' o') (fun _ _ _ _ i => s.size - (intOf i).toNat)
  case atStart => exact ⟨0, -1, -1, false, Nat.zero_le _, rfl, rfl, rfl, rfl, rfl, inv_zero s⟩
  case round =>
    obtain ⟨k, p, f, o, hk, rfl, rfl, rfl, rfl, rfl, hinv⟩ := hrel
    obtain ⟨hp1, hp2, hf1, hf2⟩ := inv_bd hinv
    have HI : Hid (Inv s k p f o) := hinv
    clear hinv
    by_cases hlt : k < s.size
    · have HK : Hid (bAt s k = (s[k].toNat : Int)) := bAt_in hlt
      by_cases c1 : 49 ≤ (s[k].toNat : Int) ∧ (s[k].toNat : Int) ≤ 57
      · obtain ⟨c1, c2⟩ := c1
        by_cases hf : f < 0
        · go_wp2
          go_round
          case rel => exact ⟨k + 1, p, k, true, by omega, by go_num, rfl, rfl, rfl, rfl, inv_nz_new HI.out (by rw [HK.out]; exact ⟨c1, c2⟩) hf⟩
          case measure => simp [intOf]; omega
        · go_wp2
          go_round
          case rel => exact ⟨k + 1, p, f, true, by omega, by go_num, rfl, rfl, rfl, rfl, inv_nz_old HI.out (by rw [HK.out]; exact ⟨c1, c2⟩) hf⟩
          case measure => simp [intOf]; omega
      · by_cases c2 : (s[k].toNat : Int) = 48
        · have b48 : ((s[k].toNat : Int) == 48) = true := beq_iff_eq.2 c2
          have l1 : (s[k].toNat : Int) < 49 := by omega
          have HC : Hid ((s[k].toNat : Int) = 48) := c2
          clear c1 c2
          go_wp2
          go_round
          case rel => exact ⟨k + 1, p, f, true, by omega, by go_num, rfl, rfl, rfl, rfl, inv_zero_digit HI.out (by rw [HK.out]; exact HC.out)⟩
          case measure => simp [intOf]; omega
        · have b48 : ((s[k].toNat : Int) == 48) = false := beq_eq_false_iff_ne.2 c2
          by_cases c3 : (s[k].toNat : Int) = 46
          · have b46 : ((s[k].toNat : Int) == 46) = true := beq_iff_eq.2 c3
            have b101 : ((s[k].toNat : Int) == 101) = false := beq_eq_false_iff_ne.2 (by omega)
            have b69 : ((s[k].toNat : Int) == 69) = false := beq_eq_false_iff_ne.2 (by omega)
            have l1 : (s[k].toNat : Int) < 49 := by omega
            have HC : Hid ((s[k].toNat : Int) = 46) := c3
            clear c1 c2 c3
            by_cases hp : p < 0
            · go_wp2
              go_round
              case rel => exact ⟨k + 1, k, f, o, by omega, by go_num, rfl, rfl, rfl, rfl, inv_point HI.out (by rw [HK.out]; exact HC.out) hp⟩
              case measure => simp [intOf]; omega
            · have HB : Hid (Scan s 0 0 0 false) := scan_bad HI.out hlt (by rw [HK.out, HC.out]; unfold isE; omega) (by rw [HK.out, HC.out]; unfold isD; omega) (fun _ => by omega)
              go_wp2
              refine bodyPost_ret (results_tmp4 rfl _ _ _) rfl ?_
              exact ⟨gives4 HB.out, rfl⟩
          · have b46 : ((s[k].toNat : Int) == 46) = false := beq_eq_false_iff_ne.2 c3
            by_cases c4 : (s[k].toNat : Int) = 101 ∨ (s[k].toNat : Int) = 69
            · have HE : Hid (isE (bAt s k)) := by show isE _; rw [HK.out]; exact c4
              have HSC : Hid (Scan s (ptOr p k) f k o) := scan_done HI.out (by omega) (fun _ => HE.out)
              have l1 : 57 < (s[k].toNat : Int) := by omega
              have b2 : (((s[k].toNat : Int) == 101) = true) ∨ (((s[k].toNat : Int) == 101) = false ∧ ((s[k].toNat : Int) == 69) = true) := by
                rcases c4 with c | c
                · exact .inl (beq_iff_eq.2 c)
                · exact .inr ⟨beq_eq_false_iff_ne.2 (by omega), beq_iff_eq.2 c⟩
              clear c1 c2 c3 c4
              by_cases hp : p < 0
              · have HP : Hid (ptOr p k = k) := ptOr_neg hp
                rcases b2 with b2 | ⟨b2, b3⟩
                all_goals
                  go_wp2
                  first | rw [Exit.noGoto_ret] | skip
                  refine bodyPost_ret (results_tmp4 rfl _ _ _) rfl ?_
                  exact ⟨gives4 (HP.out ▸ HSC.out), rfl⟩
              · have HP : Hid (ptOr p k = p) := ptOr_pos hp
                rcases b2 with b2 | ⟨b2, b3⟩
                all_goals
                  go_wp2
                  first | rw [Exit.noGoto_ret] | skip
                  refine bodyPost_ret (results_tmp4 rfl _ _ _) rfl ?_
                  exact ⟨gives4 (HP.out ▸ HSC.out), rfl⟩
            · have b101 : ((s[k].toNat : Int) == 101) = false := beq_eq_false_iff_ne.2 (by omega)
              have b69 : ((s[k].toNat : Int) == 69) = false := beq_eq_false_iff_ne.2 (by omega)
              have HB : Hid (Scan s 0 0 0 false) := scan_bad HI.out hlt (by rw [HK.out]; exact c4) (by rw [HK.out]; unfold isD; omega) (fun h => absurd (HK.out ▸ h) c3)
              by_cases l1 : 49 ≤ (s[k].toNat : Int)
              · have l2 : 57 < (s[k].toNat : Int) := by omega
                clear c1 c2 c3 c4
                go_wp2
                first | rw [Exit.noGoto_ret] | skip
                refine bodyPost_ret (results_tmp4 rfl _ _ _) rfl ?_
                exact ⟨gives4 HB.out, rfl⟩
              · clear c1 c2 c3 c4
                go_wp2
                first | rw [Exit.noGoto_ret] | skip
                refine bodyPost_ret (results_tmp4 rfl _ _ _) rfl ?_
                exact ⟨gives4 HB.out, rfl⟩
    · obtain rfl : k = s.size := by omega
      have HSC : Hid (Scan s (ptOr p s.size) f s.size o) := scan_done HI.out (by omega) (fun h => absurd h hlt)
      by_cases hp : p < 0
      · have HP : Hid (ptOr p s.size = s.size) := ptOr_neg hp
        go_wp2
        first | rw [Exit.noGoto_ret] | skip
        refine bodyPost_ret (results_tmp4 rfl _ _ _) rfl ?_
        exact ⟨gives4 (HP.out ▸ HSC.out), rfl⟩
      · have HP : Hid (ptOr p s.size = p) := ptOr_pos hp
        go_wp2
        first | rw [Exit.noGoto_ret] | skip
        refine bodyPost_ret (results_tmp4 rfl _ _ _) rfl ?_
        exact ⟨gives4 (HP.out ▸ HSC.out), rfl⟩
end Go.Proofs.Qxb6601363a.Num
