namespace Go.Proofs.Qxb6600194a.Req

/-- a count below 1 stands for 1 -/
def at1 (x : Int) : Int := if x < 1 then 1 else x
theorem at1_lt {x : Int} (h : x < 1) : at1 x = 1 := by simp [at1, h]
theorem at1_ge {x : Int} (h : 1 ≤ x) : at1 x = x := by unfold at1; split <;> omega
theorem at1_bd {x : Int} (h : x ≤ 9223372036854775807) : 1 ≤ at1 x ∧ at1 x ≤ 9223372036854775807 := by unfold at1; split <;> omega

/-- has an earlier review the author of review k? -/
def seenBy (U : Nat → ByteArray) (k : Nat) (s : ByteArray) : Bool := (List.range k).any fun j => decide (U j = s)
theorem seenBy_succ (U : Nat → ByteArray) (k : Nat) (s : ByteArray) : seenBy U (k + 1) s = (seenBy U k s || decide (U k = s)) := by
  simp [seenBy, List.range_succ]
theorem seenBy_zero (U : Nat → ByteArray) (s : ByteArray) : seenBy U 0 s = false := rfl
theorem seenBy_true {U : Nat → ByteArray} {k : Nat} {s : ByteArray} : seenBy U k s = true ↔ ∃ j, j < k ∧ U j = s := by
  simp [seenBy]
theorem seenBy_false {U : Nat → ByteArray} {k : Nat} {s : ByteArray} : seenBy U k s = false ↔ ∀ j, j < k → U j ≠ s := by
  simp [seenBy]

/-- how many different authors, by their first review, said 'v' among the first k reviews -/
def cnt (U : Nat → ByteArray) (B : Nat → Bool) (v : Bool) : Nat → Int
  | 0 => 0
  | k + 1 => cnt U B v k + if seenBy U k (U k) = false ∧ B k = v then 1 else 0
theorem cnt_bd (U : Nat → ByteArray) (B : Nat → Bool) (v : Bool) : ∀ k, 0 ≤ cnt U B v k ∧ cnt U B v k ≤ k
  | 0 => by simp [cnt]
  | k + 1 => by
    have := cnt_bd U B v k
    simp only [cnt]
    split <;> omega
theorem cnt_seen {U : Nat → ByteArray} {B : Nat → Bool} {v : Bool} {k : Nat} (h : seenBy U k (U k) = true) : cnt U B v (k + 1) = cnt U B v k := by simp [cnt, h]
theorem cnt_hit {U : Nat → ByteArray} {B : Nat → Bool} {v : Bool} {k : Nat} (h : seenBy U k (U k) = false) (hb : B k = v) : cnt U B v (k + 1) = cnt U B v k + 1 := by simp [cnt, h, hb]
theorem cnt_miss {U : Nat → ByteArray} {B : Nat → Bool} {v : Bool} {k : Nat} (hb : B k ≠ v) : cnt U B v (k + 1) = cnt U B v k := by simp [cnt, hb]
theorem cnt_congr {U U' : Nat → ByteArray} {B B' : Nat → Bool} {v : Bool} : ∀ {k : Nat}, (∀ j, j < k → U j = U' j ∧ B j = B' j) → cnt U B v k = cnt U' B' v k
  | 0, _ => rfl
  | k + 1, h => by
    have ih := cnt_congr (v := v) (k := k) (fun j hj => h j (by omega))
    have hk := h k (by omega)
    have hs : seenBy U k (U k) = seenBy U' k (U' k) := by
      unfold seenBy
      rw [Bool.eq_iff_iff]
      simp only [List.any_eq_true, List.mem_range, decide_eq_true_eq]
      constructor
      · rintro ⟨j, hj, e⟩; exact ⟨j, hj, by rw [← (h j (by omega)).1, ← hk.1]; exact e⟩
      · rintro ⟨j, hj, e⟩; exact ⟨j, hj, by rw [(h j (by omega)).1, hk.1]; exact e⟩
    simp only [cnt, ih, hs, hk.2]

/-- does some threshold among the first n deny? -/
def anyDeny (D : Nat → Int) (dn : Int) (n : Nat) : Bool := (List.range n).any fun i => decide (at1 (D i) ≤ dn)
/-- does each of the first n approve? -/
def allApp (A : Nat → Int) (ap : Int) (n : Nat) : Bool := (List.range n).all fun i => decide (at1 (A i) ≤ ap)
theorem anyDeny_succ (D : Nat → Int) (dn : Int) (n : Nat) : anyDeny D dn (n + 1) = (anyDeny D dn n || decide (at1 (D n) ≤ dn)) := by simp [anyDeny, List.range_succ]
theorem allApp_succ (A : Nat → Int) (ap : Int) (n : Nat) : allApp A ap (n + 1) = (allApp A ap n && decide (at1 (A n) ≤ ap)) := by simp [allApp, List.range_succ]
theorem anyDeny_of {D : Nat → Int} {dn : Int} {n k : Nat} (hk : k < n) (h : at1 (D k) ≤ dn) : anyDeny D dn n = true := by
  simp only [anyDeny, List.any_eq_true, List.mem_range, decide_eq_true_eq]; exact ⟨k, hk, h⟩

def sDenied : ByteArray := ⟨#[68, 69, 78, 73, 69, 68]⟩
def sApproved : ByteArray := ⟨#[65, 80, 80, 82, 79, 86, 69, 68]⟩
def sPending : ByteArray := ⟨#[80, 69, 78, 68, 73, 78, 71]⟩

/-- the state that the counts give under n thresholds -/
def verdict (A D : Nat → Int) (ap dn : Int) (n : Nat) : ByteArray :=
  if anyDeny D dn n then sDenied else if allApp A ap n then sApproved else sPending

/-- 'RequestState', on plain data: no thresholds stand for one of 0 and 0 -/
def state (lt : Nat) (A D : Nat → Int) (lr : Nat) (U : Nat → ByteArray) (B : Nat → Bool) : ByteArray :=
  if lt = 0 then verdict (fun _ => 0) (fun _ => 0) (cnt U B true lr) (cnt U B false lr) 1
  else verdict A D (cnt U B true lr) (cnt U B false lr) lt
end Go.Proofs.Qxb6600194a.Req
