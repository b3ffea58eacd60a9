import Derived.Test.Qxb6601363aScanPlain
namespace Go.Proofs.Qxb6601363a.Num

/-- t is digits with at most one point among them, and one digit at least -/
def Acc (t : ByteArray) : Prop := Chars t t.size ∧ OnePt t t.size ∧ ∃ j, j < t.size ∧ isD (bAt t j)
def LastIs (t : ByteArray) (l : Nat) : Prop := l < t.size ∧ isNZ (bAt t l) ∧ ∀ j, l < j → j < t.size → ¬ isNZ (bAt t j)

/-- what the text t under the sign neg reads as -/
def PDt (neg : Bool) (t : ByteArray) (n : Bool) (d : ByteArray) (sc : Int) (ok : Bool) : Prop :=
  (¬ Acc t ∧ n = false ∧ d = ByteArray.empty ∧ sc = 0 ∧ ok = false) ∨
  (Acc t ∧ (∀ j, j < t.size → ¬ isNZ (bAt t j)) ∧ n = false ∧ d = ByteArray.empty ∧ sc = 0 ∧ ok = true) ∨
  (Acc t ∧ ∃ (f l : Nat) (p0 : Int), FirstIs t t.size f ∧ LastIs t l ∧ PtIs t t.size p0 ∧ n = neg ∧ d = t.extract f (l + 1) ∧ sc = ptOr p0 t.size - f ∧ ok = true)

theorem last_unique {t : ByteArray} {l m : Nat} (h : LastIs t l) (k : LastIs t m) : l = m := by
  obtain ⟨h1, h2, h3⟩ := h
  obtain ⟨k1, k2, k3⟩ := k
  rcases Nat.lt_trichotomy l m with hl | hl | hl
  · exact absurd k2 (h3 m hl k1)
  · exact hl
  · exact absurd h2 (k3 l hl h1)

theorem pd_unique {neg : Bool} {t : ByteArray} {n n' : Bool} {d d' : ByteArray} {sc sc' : Int} {ok ok' : Bool} (h : PDt neg t n d sc ok) (k : PDt neg t n' d' sc' ok') : n = n' ∧ d = d' ∧ sc = sc' ∧ ok = ok' := by
  rcases h with ⟨h1, rfl, rfl, rfl, rfl⟩ | ⟨h1, h2, rfl, rfl, rfl, rfl⟩ | ⟨h1, f, l, p, h2, h3, h4, rfl, rfl, rfl, rfl⟩
  · rcases k with ⟨k1, rfl, rfl, rfl, rfl⟩ | ⟨k1, k2, rfl, rfl, rfl, rfl⟩ | ⟨k1, f', l', p', k2, k3, k4, rfl, rfl, rfl, rfl⟩
    · exact ⟨rfl, rfl, rfl, rfl⟩
    · exact absurd k1 h1
    · exact absurd k1 h1
  · rcases k with ⟨k1, rfl, rfl, rfl, rfl⟩ | ⟨k1, k2, rfl, rfl, rfl, rfl⟩ | ⟨k1, f', l', p', k2, k3, k4, rfl, rfl, rfl, rfl⟩
    · exact absurd h1 k1
    · exact ⟨rfl, rfl, rfl, rfl⟩
    · exact absurd k3.2.1 (h2 l' k3.1)
  · rcases k with ⟨k1, rfl, rfl, rfl, rfl⟩ | ⟨k1, k2, rfl, rfl, rfl, rfl⟩ | ⟨k1, f', l', p', k2, k3, k4, rfl, rfl, rfl, rfl⟩
    · exact absurd h1 k1
    · exact absurd h3.2.1 (k2 l h3.1)
    · have e1 := first_unique h2 k2
      obtain rfl : f = f' := by omega
      obtain rfl := last_unique h3 k3
      obtain rfl := pt_unique h4 k4
      exact ⟨rfl, rfl, rfl, rfl⟩

theorem acc_exp {t : ByteArray} (h : Chars t t.size) : IsExp t t.size := ⟨Nat.le_refl _, not_exp_of_chars h, fun h => by omega⟩

theorem scan_cases {t : ByteArray} {p f e : Int} {ok : Bool} (h : Scan t p f e ok) :
    (ok = false ∧ ¬ Acc t) ∨ (ok = true ∧ e < t.size ∧ ¬ Acc t) ∨ (ok = true ∧ e = t.size ∧ Acc t ∧ FirstIs t t.size f ∧ ∃ p0, PtIs t t.size p0 ∧ p = ptOr p0 t.size) := by
  obtain ⟨E, hE, h⟩ := h
  rcases h with ⟨h1, h2, rfl, ⟨p0, h4, rfl⟩, h5, h6⟩ | ⟨h1, rfl, rfl, rfl, rfl⟩
  · by_cases hl : E < t.size
    · have hna : ¬ Acc t := fun ha => by
        have := ha.1 E hl
        have hx := hE.2.2 hl
        unfold isD isP at this
        unfold isE at hx
        omega
      cases ok
      · exact .inl ⟨rfl, hna⟩
      · exact .inr (.inl ⟨rfl, by omega, hna⟩)
    · obtain rfl : E = t.size := by have := hE.1; omega
      cases ok
      · refine .inl ⟨rfl, fun ha => ?_⟩
        have := h6.2 ha.2.2
        simp at this
      · exact .inr (.inr ⟨rfl, rfl, ⟨h1, h2, h6.1 rfl⟩, h5, p0, h4, rfl⟩)
  · refine .inl ⟨rfl, fun ha => ?_⟩
    obtain rfl := exp_unique hE (acc_exp ha.1)
    exact h1 ⟨ha.1, ha.2.1⟩

/-- neither 0 nor point, in an accepted text: a digit other than 0 -/
theorem nz_of {t : ByteArray} {j : Nat} (h : Chars t t.size) (hj : j < t.size) (h1 : bAt t j ≠ 48) (h2 : bAt t j ≠ 46) : isNZ (bAt t j) := by
  have := h j hj
  unfold isD isP at this
  unfold isNZ; omega
end Go.Proofs.Qxb6601363a.Num
