import Derived.Test.Qxb6600194aPlain
namespace Go.Proofs.Qxb6600194a.Req
/-- the least deny count, the greatest approve count, of thresholds 0 .. k -/
def minTo (D : Nat → Int) : Nat → Int
  | 0 => at1 (D 0)
  | k + 1 => if at1 (D (k + 1)) < minTo D k then at1 (D (k + 1)) else minTo D k
def maxTo (A : Nat → Int) : Nat → Int
  | 0 => at1 (A 0)
  | k + 1 => if maxTo A k < at1 (A (k + 1)) then at1 (A (k + 1)) else maxTo A k
theorem minTo_deny (D : Nat → Int) (x : Int) : ∀ k, anyDeny D x (k + 1) = true ↔ minTo D k ≤ x
  | 0 => by simp [anyDeny, minTo]
  | k + 1 => by
    rw [anyDeny_succ, Bool.or_eq_true, minTo_deny D x k, decide_eq_true_eq]
    simp only [minTo]
    split <;> omega
theorem maxTo_app (A : Nat → Int) (x : Int) : ∀ k, allApp A x (k + 1) = true ↔ maxTo A k ≤ x
  | 0 => by simp [allApp, maxTo]
  | k + 1 => by
    rw [allApp_succ, Bool.and_eq_true, maxTo_app A x k, decide_eq_true_eq]
    simp only [maxTo]
    split <;> omega

theorem verdict_by {A D : Nat → Int} {ap dn : Int} {k : Nat} : verdict A D ap dn (k + 1) = if minTo D k ≤ dn then sDenied else if maxTo A k ≤ ap then sApproved else sPending := by
  unfold verdict; simp only [minTo_deny, maxTo_app]

end Go.Proofs.Qxb6600194a.Req
