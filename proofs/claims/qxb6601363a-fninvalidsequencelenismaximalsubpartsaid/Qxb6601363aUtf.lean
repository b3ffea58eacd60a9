import Derived.Test.Qxb6601363aRows
import Derived.WalkKit
import Derived.WalkSpells
import Derived.WalkLawsBesides
import Derived.RowKit3
import Derived.Test.Qxb6601363aUtfPlain
namespace Go.Proofs.Qxb6601363a.Utf
open Go.RowKit

/-- the byte at i, 128 behind the end -/
def padAt (p : ByteArray) (i : Nat) : Int := if h : i < p.size then (p[i].toNat : Int) else 128
theorem padAt_in {p : ByteArray} {i : Nat} (h : i < p.size) : padAt p i = (p[i].toNat : Int) := by unfold padAt; rw [dif_pos h]
theorem padAt_out {p : ByteArray} {i : Nat} (h : p.size ≤ i) : padAt p i = 128 := by unfold padAt; rw [dif_neg (by omega)]
theorem padAt_bd (p : ByteArray) (i : Nat) : 0 ≤ padAt p i ∧ padAt p i ≤ 255 := by
  unfold padAt; split
  · have := UInt8.toNat_lt p[i]; omega
  · omega

theorem ret_int {k : IntKind} {a b : Int} (h : a = b) : Ending.returned (.int k a) = .returned (.int k b) := by rw [h]
theorem ret_bool {a b : Bool} (h : a = b) : Ending.returned (.bool a) = .returned (.bool b) := by rw [h]

theorem byteAt (p : ByteArray) (i : Nat) (x : Int) (hx : x = i) (w : World) :
    Calls Try.prog 36 #[.string p, .int .i64 x] w fun e w' => e = .returned (.int .u8 (padAt p i)) ∧ w' = w := by
  subst hx
  by_cases h : i < p.size
  · go_enter Try.func36, Try.ntmps36
    go_wp2
    go_ret
    exact ⟨ret_int (padAt_in h).symm, rfl⟩
  · go_enter Try.func36, Try.ntmps36
    go_wp2
    go_ret
    exact ⟨ret_int (padAt_out (by omega)).symm, rfl⟩

/-- the call gives a bool, true just where p holds -/
def Tells (p : Prop) (e : Ending) : Prop := ∃ bb, e = .returned (.bool bb) ∧ (bb = true ↔ p)
theorem tells {p : Prop} {bb : Bool} (h : bb = true ↔ p) : Tells p (.returned (.bool bb)) := ⟨bb, rfl, h⟩
theorem tells_t {p : Prop} (h : p) : Tells p (.returned (.bool true)) := ⟨true, rfl, by simp [h]⟩
theorem tells_f {p : Prop} (h : ¬ p) : Tells p (.returned (.bool false)) := ⟨false, rfl, by simp [h]⟩

theorem byte_cases {P : Int → Prop} (h : ∀ n : Fin 256, P (n.val : Int)) (b : Int) (h0 : 0 ≤ b) (h1 : b ≤ 255) : P b := by
  have := h ⟨b.toNat, by omega⟩
  rwa [show ((b.toNat : Nat) : Int) = b by omega] at this

theorem and192 (b : Int) (h0 : 0 ≤ b) (h1 : b ≤ 255) : (bits .and .u8 b 192 != 128) = !(decide (128 ≤ b) && decide (b ≤ 191)) :=
  byte_cases (P := fun b => (bits .and .u8 b 192 != 128) = !(decide (128 ≤ b) && decide (b ≤ 191))) (by decide +kernel) b h0 h1
theorem and224 (b : Int) (h0 : 0 ≤ b) (h1 : b ≤ 255) : (bits .and .u8 b 224 != 192) = !(decide (192 ≤ b) && decide (b ≤ 223)) :=
  byte_cases (P := fun b => (bits .and .u8 b 224 != 192) = !(decide (192 ≤ b) && decide (b ≤ 223))) (by decide +kernel) b h0 h1
theorem and240 (b : Int) (h0 : 0 ≤ b) (h1 : b ≤ 255) : (bits .and .u8 b 240 != 224) = !(decide (224 ≤ b) && decide (b ≤ 239)) :=
  byte_cases (P := fun b => (bits .and .u8 b 240 != 224) = !(decide (224 ≤ b) && decide (b ≤ 239))) (by decide +kernel) b h0 h1
theorem and248 (b : Int) (h0 : 0 ≤ b) (h1 : b ≤ 255) : (bits .and .u8 b 248 != 240) = !(decide (240 ≤ b) && decide (b ≤ 247)) :=
  byte_cases (P := fun b => (bits .and .u8 b 248 != 240) = !(decide (240 ≤ b) && decide (b ≤ 247))) (by decide +kernel) b h0 h1

theorem wraps_i64 (n : Int) (h₀ : 0 ≤ n) (h₁ : n < 2 ^ 31) : IntKind.i64.wrap n = n := by rw [IntKind.wrap_i64]; omega
theorem or6 (x y : Int) (hx₀ : 0 ≤ x) (hx : x % 64 = 0) (hx₁ : x < 2147483648) (h₀ : 0 ≤ y) (h₁ : y < 64) : bits .or .i64 x y = x + y :=
  bits_join .i64 31 (by decide) wraps_i64 6 x y hx₀ hx hx₁ h₀ h₁ (by omega)
theorem or12 (x y : Int) (hx₀ : 0 ≤ x) (hx : x % 4096 = 0) (hx₁ : x < 2147483648) (h₀ : 0 ≤ y) (h₁ : y < 4096) : bits .or .i64 x y = x + y :=
  bits_join .i64 31 (by decide) wraps_i64 12 x y hx₀ hx hx₁ h₀ h₁ (by omega)
theorem or18 (x y : Int) (hx₀ : 0 ≤ x) (hx : x % 262144 = 0) (hx₁ : x < 2147483648) (h₀ : 0 ≤ y) (h₁ : y < 262144) : bits .or .i64 x y = x + y :=
  bits_join .i64 31 (by decide) wraps_i64 18 x y hx₀ hx hx₁ h₀ h₁ (by omega)

set_option maxHeartbeats 2000000 in
theorem padded (p : ByteArray) (n : Nat) (w : World) (h1 : 1 ≤ n) (h4 : n ≤ 4) (hp : 0 < p.size) (hpn : p.size ≤ n) :
    Calls Try.prog 32 #[.string p, .int .i64 n] w fun e w' => Tells (encP (padAt p 0) (padAt p 1) (padAt p 2) (padAt p 3) n) e ∧ w' = w := by
  have hz : ((p.size : Int) == 0) = false := beq_eq_false_iff_ne.2 (by omega)
  go_enter Try.func32, Try.ntmps32
  go_wp2_with (first | (go_at_call 36; refine (byteAt _ 0 _ rfl _).mono ?_; rintro e w' ⟨rfl, rfl⟩))
  go_loop [6] (fun i => ∃ k : Nat, 1 ≤ k ∧ k ≤ n ∧ i = .int .i64 k ∧ ∀ j, 1 ≤ j → j < k → 128 ≤ padAt p j ∧ padAt p j ≤ 191) (fun i => n - (intOf i).toNat)
  case atStart => exact ⟨1, by omega, by omega, rfl, by omega⟩
  case round =>
    obtain ⟨k, hk1, hkn, rfl, hall⟩ := hrel
    have HA : Hid (∀ j, 1 ≤ j → j < k → 128 ≤ padAt p j ∧ padAt p j ≤ 191) := hall
    clear hall
    by_cases hlt : k < n
    · have hbk := padAt_bd p k
      have ha := and192 (padAt p k) hbk.1 hbk.2
      by_cases hc : 128 ≤ padAt p k ∧ padAt p k ≤ 191
      · rw [decide_eq_true hc.1, decide_eq_true hc.2] at ha
        go_wp2_with (first | (go_at_call 36; refine (byteAt _ k _ rfl _).mono ?_; rintro e w' ⟨rfl, rfl⟩))
        go_round
        case rel => exact ⟨k + 1, by omega, by omega, by go_num, fun j h1 h2 => by
          by_cases e : j = k
          · subst e; exact hc
          · exact HA.out j h1 (by omega)⟩
        case measure => simp [intOf]; omega
      · have ha' : (bits .and .u8 (padAt p k) 192 != 128) = true := by
          rw [ha]
          rcases Classical.em (128 ≤ padAt p k) with h | h
          · rw [decide_eq_false (p := padAt p k ≤ 191) (fun h' => hc ⟨h, h'⟩)]; simp
          · rw [decide_eq_false h]; rfl
        clear ha
        have HC : Hid (¬ (128 ≤ padAt p k ∧ padAt p k ≤ 191)) := hc
        clear hc
        go_wp2_with (first | (go_at_call 36; refine (byteAt _ k _ rfl _).mono ?_; rintro e w' ⟨rfl, rfl⟩))
        go_ret
        refine ⟨tells_f fun hE => HC.out ?_, rfl⟩
        unfold encP at hE
        have hk : k = 1 ∨ k = 2 ∨ k = 3 := by omega
        rcases hk with rfl | rfl | rfl <;> omega
    · obtain rfl : k = n := by omega
      have hb0 := padAt_bd p 0
      have hA := HA.out
      rcases (by omega : k = 1 ∨ k = 2 ∨ k = 3 ∨ k = 4) with rfl | rfl | rfl | rfl
      · clear hA HA
        go_wp2
        go_ret
        refine ⟨tells ?_, rfl⟩
        rw [enc1]
        simp
      · -- n = 2
        have c1 := hA 1 (by omega) (by omega)
        clear hA HA
        have ha := and224 (padAt p 0) hb0.1 hb0.2
        by_cases h : 192 ≤ padAt p 0 ∧ padAt p 0 ≤ 223
        · rw [decide_eq_true h.1, decide_eq_true h.2] at ha
          have HE : Hid (_ ↔ _) := enc2 (b0 := padAt p 0) (b1 := padAt p 1) (b2 := padAt p 2) (b3 := padAt p 3) h.1 h.2 c1.1 c1.2
          have o1 := or6 (padAt p 0 % 32 * 64) (padAt p 1 % 64) (by omega) (by omega) (by omega) (by omega) (by omega)
          go_wp2_with fail
          refine (byteAt _ 1 _ rfl _).mono ?_
          rintro e w1 ⟨rfl, rfl⟩
          go_wp2
          all_goals
            go_ret
            refine ⟨tells ?_, rfl⟩
            refine Iff.trans ?_ HE.out.symm
            first | (simp; done) | (simp; omega) | omega
        · have ha' : (bits .and .u8 (padAt p 0) 224 != 192) = true := by
            rw [ha]
            rcases Classical.em (192 ≤ padAt p 0) with h' | h'
            · rw [decide_eq_false (p := padAt p 0 ≤ 223) (fun h2 => h ⟨h', h2⟩)]; simp
            · rw [decide_eq_false h']; rfl
          have HC : Hid (¬ (192 ≤ padAt p 0 ∧ padAt p 0 ≤ 223)) := h
          clear ha h
          go_wp2
          go_ret
          refine ⟨tells_f fun hE => HC.out ?_, rfl⟩
          unfold encP at hE
          omega
      · -- n = 3
        have c1 := hA 1 (by omega) (by omega)
        have c2 := hA 2 (by omega) (by omega)
        clear hA HA
        have ha := and240 (padAt p 0) hb0.1 hb0.2
        by_cases h : 224 ≤ padAt p 0 ∧ padAt p 0 ≤ 239
        · rw [decide_eq_true h.1, decide_eq_true h.2] at ha
          have HE : Hid (_ ↔ _) := enc3 (b0 := padAt p 0) (b1 := padAt p 1) (b2 := padAt p 2) (b3 := padAt p 3) h.1 h.2 c1.1 c1.2 c2.1 c2.2
          have o1 := or12 (padAt p 0 % 16 * 4096) (padAt p 1 % 64 * 64) (by omega) (by omega) (by omega) (by omega) (by omega)
          have o2 := or6 (padAt p 0 % 16 * 4096 + padAt p 1 % 64 * 64) (padAt p 2 % 64) (by omega) (by omega) (by omega) (by omega) (by omega)
          go_wp2_with fail
          refine (byteAt _ 1 _ rfl _).mono ?_
          rintro e w1 ⟨rfl, rfl⟩
          go_wp2_with fail
          refine (byteAt _ 2 _ rfl _).mono ?_
          rintro e w2 ⟨rfl, rfl⟩
          go_wp2
          all_goals
            go_ret
            refine ⟨tells ?_, rfl⟩
            refine Iff.trans ?_ HE.out.symm
            first | (simp; done) | (simp; omega) | omega
        · have ha' : (bits .and .u8 (padAt p 0) 240 != 224) = true := by
            rw [ha]
            rcases Classical.em (224 ≤ padAt p 0) with h' | h'
            · rw [decide_eq_false (p := padAt p 0 ≤ 239) (fun h2 => h ⟨h', h2⟩)]; simp
            · rw [decide_eq_false h']; rfl
          have HC : Hid (¬ (224 ≤ padAt p 0 ∧ padAt p 0 ≤ 239)) := h
          clear ha h
          go_wp2
          go_ret
          refine ⟨tells_f fun hE => HC.out ?_, rfl⟩
          unfold encP at hE
          omega
      · -- n = 4
        have c1 := hA 1 (by omega) (by omega)
        have c2 := hA 2 (by omega) (by omega)
        have c3 := hA 3 (by omega) (by omega)
        clear hA HA
        have ha := and248 (padAt p 0) hb0.1 hb0.2
        by_cases h : 240 ≤ padAt p 0 ∧ padAt p 0 ≤ 247
        · rw [decide_eq_true h.1, decide_eq_true h.2] at ha
          have HE : Hid (_ ↔ _) := enc4 (b0 := padAt p 0) (b1 := padAt p 1) (b2 := padAt p 2) (b3 := padAt p 3) h.1 h.2 c1.1 c1.2 c2.1 c2.2 c3.1 c3.2
          have o1 := or18 (padAt p 0 % 8 * 262144) (padAt p 1 % 64 * 4096) (by omega) (by omega) (by omega) (by omega) (by omega)
          have o2 := or12 (padAt p 0 % 8 * 262144 + padAt p 1 % 64 * 4096) (padAt p 2 % 64 * 64) (by omega) (by omega) (by omega) (by omega) (by omega)
          have o3 := or6 (padAt p 0 % 8 * 262144 + padAt p 1 % 64 * 4096 + padAt p 2 % 64 * 64) (padAt p 3 % 64) (by omega) (by omega) (by omega) (by omega) (by omega)
          go_wp2_with fail
          refine (byteAt _ 1 _ rfl _).mono ?_
          rintro e w1 ⟨rfl, rfl⟩
          go_wp2_with fail
          refine (byteAt _ 2 _ rfl _).mono ?_
          rintro e w2 ⟨rfl, rfl⟩
          go_wp2_with fail
          refine (byteAt _ 3 _ rfl _).mono ?_
          rintro e w3 ⟨rfl, rfl⟩
          go_wp2
          all_goals
            go_ret
            refine ⟨tells ?_, rfl⟩
            refine Iff.trans ?_ HE.out.symm
            first | (simp; done) | (simp; omega) | omega
        · have ha' : (bits .and .u8 (padAt p 0) 248 != 240) = true := by
            rw [ha]
            rcases Classical.em (240 ≤ padAt p 0) with h' | h'
            · rw [decide_eq_false (p := padAt p 0 ≤ 247) (fun h2 => h ⟨h', h2⟩)]; simp
            · rw [decide_eq_false h']; rfl
          have HC : Hid (¬ (240 ≤ padAt p 0 ∧ padAt p 0 ≤ 247)) := h
          clear ha h
          go_wp2
          go_ret
          refine ⟨tells_f fun hE => HC.out ?_, rfl⟩
          unfold encP at hE
          omega
end Go.Proofs.Qxb6601363a.Utf
