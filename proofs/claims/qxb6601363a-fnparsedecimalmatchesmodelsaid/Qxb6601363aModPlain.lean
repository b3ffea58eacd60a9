import Derived.Test.Qxb6601363aDecPlain
namespace Go.Proofs.Qxb6601363a.Num

abbrev tl (t : ByteArray) : List UInt8 := t.data.toList
theorem tl_len (t : ByteArray) : (tl t).length = t.size := by simp [tl]
theorem tl_get {t : ByteArray} {j : Nat} (h : j < t.size) : (tl t)[j]? = some t[j] := by
  rw [List.getElem?_eq_getElem (by simpa using h)]; rfl
theorem tl_bAt {t : ByteArray} {j : Nat} {b : UInt8} (h : (tl t)[j]? = some b) : bAt t j = (b.toNat : Int) ∧ j < t.size := by
  have hj : j < t.size := by
    have := (List.getElem?_eq_some_iff.1 h).1
    simpa using this
  rw [tl_get hj] at h
  cases h
  exact ⟨bAt_in hj, hj⟩
theorem take_snoc {t : ByteArray} {k : Nat} (h : k < t.size) : (tl t).take (k + 1) = (tl t).take k ++ [t[k]] := by
  rw [List.take_succ_eq_append_getElem (by simpa using h)]; rfl

/-- the digits of the first k bytes, the point (at p, none for -1) left out -/
def Ld (t : ByteArray) (k : Nat) (p : Int) : List UInt8 := if p < 0 then (tl t).take k else (tl t).take p.toNat ++ ((tl t).take k).drop (p.toNat + 1)

theorem Ld_len {t : ByteArray} {k : Nat} {p : Int} (hk : k ≤ t.size) (hp : p < k) : (Ld t k p).length = if p < 0 then k else k - 1 := by
  have hl := tl_len t
  unfold Ld
  split
  · simp; omega
  · simp; omega
theorem Ld_digit {t : ByteArray} {k : Nat} {p : Int} (hk : k < t.size) (hp : p < k) : Ld t (k + 1) p = Ld t k p ++ [t[k]] := by
  unfold Ld
  rw [take_snoc hk]
  split
  · rfl
  · rw [List.drop_append_of_le_length (by simp; omega), List.append_assoc]
theorem Ld_point {t : ByteArray} {k : Nat} {p : Int} (hp : p < 0) : Ld t (k + 1) (k : Int) = Ld t k p := by
  unfold Ld
  rw [if_pos hp, if_neg (by omega), Int.toNat_natCast, List.drop_eq_nil_of_le (by simp; omega)]
  simp

structure MInv (t : ByteArray) (k : Nat) (p : Int) : Prop where
  chars : Chars t k
  one : OnePt t k
  pt : PtIs t k p
theorem minv_zero (t : ByteArray) : MInv t 0 (-1) := ⟨fun j h => by omega, fun i j _ h => by omega, .inr ⟨rfl, fun j h => by omega⟩⟩
theorem minv_digit {t : ByteArray} {k : Nat} {p : Int} (h : MInv t k p) (hd : isD (bAt t k)) : MInv t (k + 1) p := by
  have hn : ¬ isP (bAt t k) := by unfold isD at hd; unfold isP; omega
  exact ⟨chars_step h.chars (.inl hd), one_keep h.one (.inl hn), pt_keep h.pt hn⟩
theorem minv_point {t : ByteArray} {k : Nat} {p : Int} (h : MInv t k p) (hd : bAt t k = 46) (hp : p < 0) : MInv t (k + 1) k := by
  have hn : ∀ j, j < k → ¬ isP (bAt t j) := by
    rcases h.pt with ⟨q, hq, rfl, _⟩ | ⟨_, hn⟩
    · omega
    · exact hn
  exact ⟨chars_step h.chars (.inr hd), one_keep h.one (.inr hn), .inl ⟨k, by omega, rfl, hd, hn⟩⟩
theorem minv_bd {t : ByteArray} {k : Nat} {p : Int} (h : MInv t k p) : -1 ≤ p ∧ p < k := by
  rcases h.pt with ⟨q, hq, rfl, _⟩ | ⟨rfl, _⟩ <;> omega
theorem minv_bad {t : ByteArray} {k : Nat} {p : Int} (h : MInv t k p) (hk : k < t.size) (hd : ¬ isD (bAt t k)) (hp : isP (bAt t k) → 0 ≤ p) : ¬ Acc t := fun ⟨hc, ho, _⟩ => by
  rcases hc k hk with hc | hc
  · exact hd hc
  · rcases h.pt with ⟨q, hq, rfl, hpq, _⟩ | ⟨rfl, _⟩
    · exact ho q k hq hk hpq hc
    · have := hp hc; omega

/-- place i among the digits is this place of the text -/
def pos (q i : Nat) : Nat := if i < q then i else i + 1

theorem Ld_get {t : ByteArray} {p : Int} (h : MInv t t.size p) (i : Nat) : (Ld t t.size p)[i]? = (tl t)[pos (ptOr p t.size).toNat i]? := by
  have hl := tl_len t
  have hb := minv_bd h
  unfold Ld ptOr pos
  split
  · rename_i hp
    rw [List.take_of_length_le (by omega), Int.toNat_natCast]
    by_cases hi : i < t.size
    · rw [if_pos hi]
    · rw [if_neg hi, List.getElem?_eq_none (by omega), List.getElem?_eq_none (by omega)]
  · rename_i hp
    rw [List.take_of_length_le (l := tl t) (i := t.size) (by omega)]
    by_cases hi : i < p.toNat
    · rw [if_pos hi, List.getElem?_append_left (by simp; omega), List.getElem?_take_of_lt hi]
    · rw [if_neg hi, List.getElem?_append_right (by simp; omega), List.getElem?_drop]
      congr 1
      simp
      omega

/-- the point's place is no digit's; every other place is -/
theorem dig_pos {t : ByteArray} {p : Int} (h : MInv t t.size p) {j : Nat} (hj : j < t.size) (hq : j ≠ (ptOr p t.size).toNat) : isD (bAt t j) := by
  rcases h.chars j hj with hd | hd
  · exact hd
  · exfalso
    unfold ptOr at hq
    rcases h.pt with ⟨q, hqs, rfl, hpq, hmin⟩ | ⟨rfl, hn⟩
    · rw [if_neg (by omega), Int.toNat_natCast] at hq
      rcases Nat.lt_trichotomy j q with hl | hl | hl
      · exact hmin j hl hd
      · exact hq hl
      · exact h.one q j hl hj hpq hd
    · exact hn j hj hd

theorem pt_at {t : ByteArray} {p : Int} (h : MInv t t.size p) (hq : (ptOr p t.size).toNat < t.size) : bAt t (ptOr p t.size).toNat = 46 := by
  unfold ptOr at *
  rcases h.pt with ⟨q, hqs, rfl, hpq, hmin⟩ | ⟨rfl, hn⟩
  · rw [if_neg (by omega), Int.toNat_natCast]; exact hpq
  · rw [if_pos (by omega), Int.toNat_natCast] at hq; omega

theorem Ld_total {t : ByteArray} {p : Int} (h : MInv t t.size p) : (Ld t t.size p).length = if (ptOr p t.size).toNat < t.size then t.size - 1 else t.size := by
  have hb := minv_bd h
  rw [Ld_len (Nat.le_refl _) hb.2]
  unfold ptOr
  by_cases hp : p < 0
  · rw [if_pos hp, if_pos hp, Int.toNat_natCast, if_neg (by omega)]
  · rw [if_neg hp, if_neg hp, if_pos (by omega)]

theorem acc_of {t : ByteArray} {p : Int} (h : MInv t t.size p) (hn : 0 < (Ld t t.size p).length) : Acc t := by
  refine ⟨h.chars, h.one, ?_⟩
  have hl := Ld_total h
  refine ⟨pos (ptOr p t.size).toNat 0, ?_, dig_pos h ?_ ?_⟩ <;> (unfold pos; split <;> split at hl <;> omega)
theorem not_acc_of {t : ByteArray} {p : Int} (h : MInv t t.size p) (hn : (Ld t t.size p).length = 0) : ¬ Acc t := fun ⟨_, _, j, hj, hd⟩ => by
  have hl := Ld_total h
  have : j = (ptOr p t.size).toNat := by split at hl <;> omega
  subst this
  have := pt_at h hj
  unfold isD at hd
  omega

theorem Ld_byte {t : ByteArray} {p : Int} (h : MInv t t.size p) {i : Nat} (hi : i < (Ld t t.size p).length) : bAt t (pos (ptOr p t.size).toNat i) = ((Ld t t.size p)[i].toNat : Int) ∧ pos (ptOr p t.size).toNat i < t.size := by
  have h1 := Ld_get h i
  rw [List.getElem?_eq_getElem hi] at h1
  exact tl_bAt h1.symm

theorem all_zero {t : ByteArray} {p : Int} (h : MInv t t.size p) (hz : ∀ i (hi : i < (Ld t t.size p).length), ((Ld t t.size p)[i].toNat : Int) = 48) : ∀ j, j < t.size → ¬ isNZ (bAt t j) := by
  intro j hj hnz
  have hl := Ld_total h
  unfold isNZ at hnz
  by_cases e : j = (ptOr p t.size).toNat
  · have hq : (ptOr p t.size).toNat < t.size := by omega
    have := pt_at h hq
    rw [e] at hnz
    omega
  · obtain ⟨i, hi, hij⟩ : ∃ i, i < (Ld t t.size p).length ∧ pos (ptOr p t.size).toNat i = j := by
      by_cases c : j < (ptOr p t.size).toNat
      · exact ⟨j, by split at hl <;> omega, by unfold pos; rw [if_pos c]⟩
      · exact ⟨j - 1, by split at hl <;> omega, by unfold pos; rw [if_neg (by omega)]; omega⟩
    have h1 := (Ld_byte h hi).1
    rw [hij, hz i hi] at h1
    omega

theorem pos_inj_lt {q i j : Nat} : pos q i < pos q j ↔ i < j := by unfold pos; split <;> split <;> omega
theorem pos_ne (q i : Nat) : pos q i ≠ q := by unfold pos; split <;> omega

/-- the significant digits, the point among them, are a piece of the text -/
theorem piece {t : ByteArray} {p : Int} (h : MInv t t.size p) {a b : Nat} (hab : a < b) (hb : b ≤ (Ld t t.size p).length)
    (ha0 : ∀ i (hi : i < (Ld t t.size p).length), i < a → ((Ld t t.size p)[i].toNat : Int) = 48) (ha1 : ((Ld t t.size p)[a].toNat : Int) ≠ 48)
    (hb0 : ∀ i (hi : i < (Ld t t.size p).length), b ≤ i → ((Ld t t.size p)[i].toNat : Int) = 48) (hb1 : ((Ld t t.size p)[b - 1].toNat : Int) ≠ 48) :
    FirstIs t t.size (pos (ptOr p t.size).toNat a) ∧ LastIs t (pos (ptOr p t.size).toNat (b - 1)) := by
  have hl := Ld_total h
  generalize hq : (ptOr p t.size).toNat = q at *
  have back : ∀ j, j < t.size → j ≠ q → ∃ i, i < (Ld t t.size p).length ∧ pos q i = j := by
    intro j hj e
    by_cases c : j < q
    · exact ⟨j, by split at hl <;> omega, by unfold pos; rw [if_pos c]⟩
    · exact ⟨j - 1, by split at hl <;> omega, by unfold pos; rw [if_neg (by omega)]; omega⟩
  have byte : ∀ i (hi : i < (Ld t t.size p).length), bAt t (pos q i) = ((Ld t t.size p)[i].toNat : Int) ∧ pos q i < t.size := by
    intro i hi
    have := Ld_byte h hi
    rwa [hq] at this
  have nzq : q < t.size → ¬ isNZ (bAt t q) := by
    intro hqs
    have := pt_at h (by rw [hq]; exact hqs)
    rw [hq] at this
    unfold isNZ; omega
  have dig : ∀ i (hi : i < (Ld t t.size p).length), isD (bAt t (pos q i)) := by
    intro i hi
    exact dig_pos h (byte i hi).2 (by rw [hq]; exact pos_ne q i)
  refine ⟨.inl ⟨pos q a, (byte a (by omega)).2, rfl, ?_, ?_⟩, (byte (b - 1) (by omega)).2, ?_, ?_⟩
  · have h1 := dig a (by omega)
    have h2 := (byte a (by omega)).1
    unfold isD at h1
    unfold isNZ; omega
  · intro j hj hnz
    have hj' := (byte a (by omega)).2
    by_cases e : j = q
    · subst e; exact nzq (by omega) hnz
    · obtain ⟨i, hi, rfl⟩ := back j (by omega) e
      have := ha0 i hi (pos_inj_lt.1 hj)
      rw [(byte i hi).1, this] at hnz
      unfold isNZ at hnz; omega
  · have h1 := dig (b - 1) (by omega)
    have h2 := (byte (b - 1) (by omega)).1
    unfold isD at h1
    unfold isNZ; omega
  · intro j hj hjs hnz
    by_cases e : j = q
    · subst e; exact nzq (by omega) hnz
    · obtain ⟨i, hi, rfl⟩ := back j hjs e
      have := hb0 i hi (by have := pos_inj_lt.1 hj; omega)
      rw [(byte i hi).1, this] at hnz
      unfold isNZ at hnz; omega

theorem bytes_ext {a b : ByteArray} (h : ∀ i : Nat, a.data.toList[i]? = b.data.toList[i]?) : a = b :=
  ByteArray.ext (Array.toList_inj.1 (List.ext_getElem? h))

theorem extract_get (t : ByteArray) (f l : Nat) (i : Nat) : (t.extract f l).data.toList[i]? = if i < l - f then (tl t)[f + i]? else none := by
  have e : (t.extract f l).data.toList = ((tl t).drop f).take (l - f) := by simp [tl]
  rw [e]
  split
  · rw [List.getElem?_take_of_lt (by omega), List.getElem?_drop]
  · rw [List.getElem?_eq_none]; simp; omega

/-- the text without a point -/
theorem text_plain {t : ByteArray} {p : Int} (h : MInv t t.size p) {a b : Nat} (hab : a < b) (hk : (ptOr p t.size).toNat ≤ a ∨ b ≤ (ptOr p t.size).toNat) :
    (⟨((Ld t t.size p).drop a |>.take (b - a)).toArray⟩ : ByteArray) = t.extract (pos (ptOr p t.size).toNat a) (pos (ptOr p t.size).toNat (b - 1) + 1) := by
  apply bytes_ext
  intro i
  rw [extract_get]
  show ((Ld t t.size p).drop a |>.take (b - a))[i]? = _
  rw [List.getElem?_take]
  by_cases hi : i < b - a
  · rw [if_pos hi, List.getElem?_drop, Ld_get h, if_pos (by unfold pos; split <;> split <;> omega)]
    congr 1
    unfold pos; split <;> split <;> omega
  · rw [if_neg hi, if_neg (by unfold pos; split <;> split <;> omega)]

/-- the text with the point inside -/
theorem text_point {t : ByteArray} {p : Int} (h : MInv t t.size p) {a b : Nat} (hb : b ≤ (Ld t t.size p).length) (hk1 : a < (ptOr p t.size).toNat) (hk2 : (ptOr p t.size).toNat < b) :
    (⟨((Ld t t.size p).drop a |>.take ((ptOr p t.size).toNat - a)).toArray⟩ ++ ⟨#[46]⟩ ++ ⟨((Ld t t.size p).drop (ptOr p t.size).toNat |>.take (b - (ptOr p t.size).toNat)).toArray⟩ : ByteArray)
      = t.extract (pos (ptOr p t.size).toNat a) (pos (ptOr p t.size).toNat (b - 1) + 1) := by
  have hl := Ld_total h
  generalize hq : (ptOr p t.size).toNat = q at *
  have hqs : q < t.size := by split at hl <;> omega
  have hpt : (tl t)[q]? = some 46 := by
    rw [tl_get hqs]
    have := pt_at h (by rw [hq]; exact hqs)
    rw [hq, bAt_in hqs] at this
    congr 1
    apply UInt8.toNat_inj.1
    have e : (46 : UInt8).toNat = 46 := rfl
    omega
  apply bytes_ext
  intro i
  rw [extract_get]
  have e0 : (⟨((Ld t t.size p).drop a |>.take (q - a)).toArray⟩ ++ ⟨#[46]⟩ ++ ⟨((Ld t t.size p).drop q |>.take (b - q)).toArray⟩ : ByteArray).data.toList
      = ((Ld t t.size p).drop a |>.take (q - a)) ++ [46] ++ ((Ld t t.size p).drop q |>.take (b - q)) := by simp
  rw [e0]
  have l1 : ((Ld t t.size p).drop a |>.take (q - a)).length = q - a := by simp; omega
  have l2 : ((Ld t t.size p).drop q |>.take (b - q)).length = b - q := by simp; omega
  have pa : pos q a = a := by unfold pos; rw [if_pos hk1]
  have pb : pos q (b - 1) = b := by unfold pos; rw [if_neg (by omega)]; omega
  rw [pa, pb]
  rcases Nat.lt_trichotomy i (q - a) with hi | hi | hi
  · rw [List.append_assoc, List.getElem?_append_left (by omega), List.getElem?_take_of_lt hi, List.getElem?_drop, Ld_get h, hq, if_pos (by omega)]
    congr 1
    unfold pos; rw [if_pos (by omega)]
  · rw [List.append_assoc, List.getElem?_append_right (by omega), l1, hi, Nat.sub_self, if_pos (by omega), show a + (q - a) = q by omega, hpt]
    rfl
  · rw [List.getElem?_append_right (by simp; omega)]
    by_cases hib : i < b + 1 - a
    · rw [if_pos hib, List.getElem?_take_of_lt (by simp; omega), List.getElem?_drop, Ld_get h, hq]
      congr 1
      simp
      unfold pos; rw [if_neg (by omega)]; omega
    · rw [if_neg hib, List.getElem?_eq_none (by simp; omega)]

/-- the scale, as the model reckons it -/
def scOf (k : Int) : Int := if k ≤ 0 then k - 1 else k
theorem scOf_np {k : Int} (h : k ≤ 0) : scOf k = k - 1 := by unfold scOf; rw [if_pos h]
theorem scOf_pos {k : Int} (h : ¬ k ≤ 0) : scOf k = k := by unfold scOf; rw [if_neg h]

theorem pd_model {neg : Bool} {t : ByteArray} {p : Int} (h : MInv t t.size p) {a b : Nat} (hab : a < b) (hb : b ≤ (Ld t t.size p).length)
    (ha0 : ∀ i (hi : i < (Ld t t.size p).length), i < a → ((Ld t t.size p)[i].toNat : Int) = 48) (ha1 : ((Ld t t.size p)[a].toNat : Int) ≠ 48)
    (hb0 : ∀ i (hi : i < (Ld t t.size p).length), b ≤ i → ((Ld t t.size p)[i].toNat : Int) = 48) (hb1 : ((Ld t t.size p)[b - 1].toNat : Int) ≠ 48)
    {d : ByteArray} (hd : d = t.extract (pos (ptOr p t.size).toNat a) (pos (ptOr p t.size).toNat (b - 1) + 1)) :
    PDt neg t neg d (scOf (ptOr p t.size - a)) true := by
  obtain ⟨h1, h2⟩ := piece h hab hb ha0 ha1 hb0 hb1
  refine .inr (.inr ⟨acc_of h (by omega), _, _, p, h1, h2, h.pt, rfl, hd, ?_, rfl⟩)
  have hnn : 0 ≤ ptOr p t.size := by unfold ptOr; split <;> omega
  unfold scOf pos
  split <;> split <;> omega

theorem pd_zero {neg : Bool} {t : ByteArray} {p : Int} (h : MInv t t.size p) (hn : 0 < (Ld t t.size p).length) (hz : ∀ i (hi : i < (Ld t t.size p).length), ((Ld t t.size p)[i].toNat : Int) = 48) :
    PDt neg t false ByteArray.empty 0 true := .inr (.inl ⟨acc_of h hn, all_zero h hz, rfl, rfl, rfl, rfl⟩)
end Go.Proofs.Qxb6601363a.Num
