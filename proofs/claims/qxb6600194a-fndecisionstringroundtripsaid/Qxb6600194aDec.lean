import Derived.Test.Qxb6600194aRows
import Derived.WalkKit
import Derived.WalkSpells
import Derived.BigQuiet
import Derived.Deep.QuietTactic
import Derived.RowKit3
import Derived.Deep.RegionWith
namespace Go.Proofs.Qxb6600194a.Dec
open Go.RowKit

def pa : ByteArray := ⟨#[97, 108, 108, 111, 119, 101, 100, 32, 98, 121, 32, 114, 111, 108, 101, 32]⟩
def pd : ByteArray := ⟨#[100, 101, 110, 105, 101, 100, 32, 98, 121, 32, 114, 111, 108, 101, 32]⟩
def pn : ByteArray := ⟨#[100, 101, 110, 105, 101, 100, 58, 32, 110, 111, 32, 114, 111, 108, 101, 32, 97, 108, 108, 111, 119, 115, 32, 105, 116]⟩

/-- what 'String' prints -/
def txt (al : Bool) (r : ByteArray) : ByteArray :=
  if al then pa ++ r else if r.toList.isEmpty then pn else pd ++ r

theorem string_any (al : Bool) (r : ByteArray) (w : World) (hr : r.size ≤ 1048576) :
    Calls Try.prog 18 #[.agg #[.bool al, .string r]] w fun e w' => e = .returned (.string (txt al r)) ∧ w' = w.alloc (.cells #[.bool al, .string r] 39) := by
  cases al
  · by_cases he : r.toList.isEmpty = true
    · go_enter Try.func18, Try.ntmps18
      go_wp2
      go_ret
      exact ⟨by simp [txt, he, pn], rfl⟩
    · have he' : r.toList.isEmpty = false := by simpa using he
      clear he
      go_enter Try.func18, Try.ntmps18
      go_wp2
      go_ret
      exact ⟨by simp [txt, he', pd], rfl⟩
  · go_enter Try.func18, Try.ntmps18
    go_wp2
    go_ret
    exact ⟨by simp [txt, pa], rfl⟩


theorem toList_app (a b : ByteArray) : (a ++ b).toList = a.toList ++ b.toList := by
  rw [ByteArray.toList_eq, ByteArray.toList_eq, ByteArray.toList_eq]; simp
theorem pa_l : pa.toList = [97, 108, 108, 111, 119, 101, 100, 32, 98, 121, 32, 114, 111, 108, 101, 32] := ByteArray.toList_eq _
theorem pd_l : pd.toList = [100, 101, 110, 105, 101, 100, 32, 98, 121, 32, 114, 111, 108, 101, 32] := ByteArray.toList_eq _
theorem pn_l : pn.toList = [100, 101, 110, 105, 101, 100, 58, 32, 110, 111, 32, 114, 111, 108, 101, 32, 97, 108, 108, 111, 119, 115, 32, 105, 116] := ByteArray.toList_eq _
end Go.Proofs.Qxb6600194a.Dec
