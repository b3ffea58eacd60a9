import Derived.Test.Qxb6601363aScan
import Derived.BigQuiet
import Derived.Deep.QuietTactic
import Derived.Below
import Derived.WalkSmall
namespace Go.Proofs.Qxb6601363a.Num
open Go.RowKit

/-- the sign, and what is left without it -/
def Cut (s : ByteArray) (neg : Bool) (t : ByteArray) : Prop :=
  (0 < s.size ∧ bAt s 0 = 43 ∧ neg = false ∧ t = s.extract 1 s.size) ∨ (0 < s.size ∧ bAt s 0 = 45 ∧ neg = true ∧ t = s.extract 1 s.size) ∨
  ((s.size = 0 ∨ (bAt s 0 ≠ 43 ∧ bAt s 0 ≠ 45)) ∧ neg = false ∧ t = s)
theorem cut_unique {s : ByteArray} {n n' : Bool} {t t' : ByteArray} (h : Cut s n t) (k : Cut s n' t') : n = n' ∧ t = t' := by
  rcases h with ⟨h1, h2, rfl, rfl⟩ | ⟨h1, h2, rfl, rfl⟩ | ⟨h1, rfl, rfl⟩ <;> rcases k with ⟨k1, k2, rfl, rfl⟩ | ⟨k1, k2, rfl, rfl⟩ | ⟨k1, rfl, rfl⟩ <;> first | exact ⟨rfl, rfl⟩ | (exfalso; omega)
theorem cut_size {s : ByteArray} {n : Bool} {t : ByteArray} (h : Cut s n t) : t.size ≤ s.size := by
  rcases h with ⟨h1, h2, rfl, rfl⟩ | ⟨h1, h2, rfl, rfl⟩ | ⟨h1, rfl, rfl⟩ <;> simp

def GivesCut (s : ByteArray) (e : Ending) : Prop := ∃ n t, e = .returned (.tuple #[.bool n, .string t]) ∧ Cut s n t
theorem givesCut {s : ByteArray} {n : Bool} {t : ByteArray} (h : Cut s n t) : GivesCut s (.returned (.tuple #[.bool n, .string t])) := ⟨n, t, rfl, h⟩

theorem empty_iff (s : ByteArray) : s.toList.isEmpty = true ↔ s.size = 0 := by
  rw [List.isEmpty_iff, ByteArray.toList_eq, Array.toList_eq_nil_iff]
  exact Array.size_eq_zero_iff.symm

set_option maxHeartbeats 1000000 in
theorem cutW (s : ByteArray) (w : World) (hs : s.size ≤ 2000000) :
    Calls Try.prog 35 #[.string s] w fun e w' => GivesCut s e ∧ ∃ n, w' = w.drewN n := by
  by_cases h0 : s.size = 0
  · have he : s.toList.isEmpty = true := (empty_iff s).2 h0
    have HX : Hid (Cut s false s) := .inr (.inr ⟨.inl h0, rfl, rfl⟩)
    go_enter Try.func35, Try.ntmps35
    go_wp2
    go_ret2
    exact ⟨givesCut HX.out, 0, rfl⟩
  · have he : s.toList.isEmpty = false := by rw [Bool.eq_false_iff]; exact fun h => h0 ((empty_iff s).1 h)
    have hpos : 0 < s.size := by omega
    have hpos' : (0 : Int) < (s.size : Int) := by omega
    have hle' : (1 : Int) ≤ (s.size : Int) := by omega
    have HK : Hid (bAt s 0 = (s[0].toNat : Int)) := bAt_in hpos
    by_cases c1 : (s[0].toNat : Int) = 43
    · have b1 : ((s[0].toNat : Int) == 43) = true := beq_iff_eq.2 c1
      have b2 : ((s[0].toNat : Int) == 45) = false := beq_eq_false_iff_ne.2 (by omega)
      have HX : Hid (Cut s false (s.extract 1 s.size)) := .inl ⟨hpos, by rw [HK.out]; exact c1, rfl, rfl⟩
      clear c1
      go_enter Try.func35, Try.ntmps35
      go_wp2
      go_quiet (fail)
      go_wp2
      go_ret2
      exact ⟨givesCut HX.out, _, rfl⟩
    · have b1 : ((s[0].toNat : Int) == 43) = false := beq_eq_false_iff_ne.2 c1
      by_cases c2 : (s[0].toNat : Int) = 45
      · have b2 : ((s[0].toNat : Int) == 45) = true := beq_iff_eq.2 c2
        have HX : Hid (Cut s true (s.extract 1 s.size)) := .inr (.inl ⟨hpos, by rw [HK.out]; exact c2, rfl, rfl⟩)
        clear c1 c2
        go_enter Try.func35, Try.ntmps35
        go_wp2
        go_quiet (fail)
        go_wp2
        go_ret2
        exact ⟨givesCut HX.out, _, rfl⟩
      · have b2 : ((s[0].toNat : Int) == 45) = false := beq_eq_false_iff_ne.2 c2
        have HX : Hid (Cut s false s) := .inr (.inr ⟨.inr ⟨by rw [HK.out]; exact c1, by rw [HK.out]; exact c2⟩, rfl, rfl⟩)
        clear c1 c2
        go_enter Try.func35, Try.ntmps35
        go_wp2
        go_ret2
        exact ⟨givesCut HX.out, 0, rfl⟩
end Go.Proofs.Qxb6601363a.Num
