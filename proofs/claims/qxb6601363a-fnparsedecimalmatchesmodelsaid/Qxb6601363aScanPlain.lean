namespace Go.Proofs.Qxb6601363a.Num

/-- the byte at i, 0 behind the end -/
def bAt (s : ByteArray) (i : Nat) : Int := if h : i < s.size then (s[i].toNat : Int) else 0
theorem bAt_in {p : ByteArray} {i : Nat} (h : i < p.size) : bAt p i = (p[i].toNat : Int) := by unfold bAt; rw [dif_pos h]
theorem bAt_bd (p : ByteArray) (i : Nat) : 0 ≤ bAt p i ∧ bAt p i ≤ 255 := by
  unfold bAt; split
  · have := UInt8.toNat_lt p[i]; omega
  · omega

def isD (b : Int) : Prop := 48 ≤ b ∧ b ≤ 57
def isNZ (b : Int) : Prop := 49 ≤ b ∧ b ≤ 57
def isP (b : Int) : Prop := b = 46
def isE (b : Int) : Prop := b = 101 ∨ b = 69

/-- E: where the first exponent mark stands, or the end -/
def IsExp (s : ByteArray) (E : Nat) : Prop := E ≤ s.size ∧ (∀ j, j < E → ¬ isE (bAt s j)) ∧ (E < s.size → isE (bAt s E))
def Chars (s : ByteArray) (E : Nat) : Prop := ∀ j, j < E → isD (bAt s j) ∨ isP (bAt s j)
def OnePt (s : ByteArray) (E : Nat) : Prop := ∀ i j, i < j → j < E → isP (bAt s i) → ¬ isP (bAt s j)
/-- a point found at q, none for -1 -/
def PtIs (s : ByteArray) (E : Nat) (p : Int) : Prop := (∃ q : Nat, q < E ∧ p = q ∧ isP (bAt s q) ∧ ∀ j, j < q → ¬ isP (bAt s j)) ∨ (p = -1 ∧ ∀ j, j < E → ¬ isP (bAt s j))
def FirstIs (s : ByteArray) (E : Nat) (f : Int) : Prop := (∃ q : Nat, q < E ∧ f = q ∧ isNZ (bAt s q) ∧ ∀ j, j < q → ¬ isNZ (bAt s j)) ∨ (f = -1 ∧ ∀ j, j < E → ¬ isNZ (bAt s j))
def OkIs (s : ByteArray) (E : Nat) (ok : Bool) : Prop := ok = true ↔ ∃ j, j < E ∧ isD (bAt s j)
/-- the point's place as it is given: the head's end for none -/
def ptOr (p : Int) (E : Nat) : Int := if p < 0 then E else p

def Scan (s : ByteArray) (p f e : Int) (ok : Bool) : Prop :=
  ∃ E : Nat, IsExp s E ∧ ((Chars s E ∧ OnePt s E ∧ e = E ∧ (∃ p0, PtIs s E p0 ∧ p = ptOr p0 E) ∧ FirstIs s E f ∧ OkIs s E ok) ∨ (¬ (Chars s E ∧ OnePt s E) ∧ p = 0 ∧ f = 0 ∧ e = 0 ∧ ok = false))

theorem exp_unique {s : ByteArray} {E F : Nat} (h : IsExp s E) (k : IsExp s F) : E = F := by
  obtain ⟨h1, h2, h3⟩ := h
  obtain ⟨k1, k2, k3⟩ := k
  rcases Nat.lt_trichotomy E F with hl | hl | hl
  · exact absurd (h3 (by omega)) (k2 E hl)
  · exact hl
  · exact absurd (k3 (by omega)) (h2 F hl)
theorem pt_unique {s : ByteArray} {E : Nat} {p q : Int} (h : PtIs s E p) (k : PtIs s E q) : p = q := by
  rcases h with ⟨a, ha, rfl, hpa, hma⟩ | ⟨rfl, hn⟩
  · rcases k with ⟨b, hb, rfl, hpb, hmb⟩ | ⟨rfl, hn⟩
    · rcases Nat.lt_trichotomy a b with hl | hl | hl
      · exact absurd hpa (hmb a hl)
      · omega
      · exact absurd hpb (hma b hl)
    · exact absurd hpa (hn a ha)
  · rcases k with ⟨b, hb, rfl, hpb, hmb⟩ | ⟨rfl, _⟩
    · exact absurd hpb (hn b hb)
    · rfl
theorem first_unique {s : ByteArray} {E : Nat} {p q : Int} (h : FirstIs s E p) (k : FirstIs s E q) : p = q := by
  rcases h with ⟨a, ha, rfl, hpa, hma⟩ | ⟨rfl, hn⟩
  · rcases k with ⟨b, hb, rfl, hpb, hmb⟩ | ⟨rfl, hn⟩
    · rcases Nat.lt_trichotomy a b with hl | hl | hl
      · exact absurd hpa (hmb a hl)
      · omega
      · exact absurd hpb (hma b hl)
    · exact absurd hpa (hn a ha)
  · rcases k with ⟨b, hb, rfl, hpb, hmb⟩ | ⟨rfl, _⟩
    · exact absurd hpb (hn b hb)
    · rfl
theorem ok_unique {s : ByteArray} {E : Nat} {a b : Bool} (h : OkIs s E a) (k : OkIs s E b) : a = b := by
  rw [Bool.eq_iff_iff]; exact h.trans k.symm
theorem scan_unique {s : ByteArray} {p f e p' f' e' : Int} {ok ok' : Bool} (h : Scan s p f e ok) (k : Scan s p' f' e' ok') : p = p' ∧ f = f' ∧ e = e' ∧ ok = ok' := by
  obtain ⟨E, hE, h⟩ := h
  obtain ⟨F, hF, k⟩ := k
  obtain rfl := exp_unique hE hF
  rcases h with ⟨h1, h2, rfl, ⟨p0, h4, rfl⟩, h5, h6⟩ | ⟨h1, rfl, rfl, rfl, rfl⟩
  · rcases k with ⟨k1, k2, rfl, ⟨q0, k4, rfl⟩, k5, k6⟩ | ⟨k1, rfl, rfl, rfl, rfl⟩
    · obtain rfl := pt_unique h4 k4
      exact ⟨rfl, first_unique h5 k5, rfl, ok_unique h6 k6⟩
    · exact absurd ⟨h1, h2⟩ k1
  · rcases k with ⟨k1, k2, rfl, ⟨q0, k4, rfl⟩, k5, k6⟩ | ⟨k1, rfl, rfl, rfl, rfl⟩
    · exact absurd ⟨k1, k2⟩ h1
    · exact ⟨rfl, rfl, rfl, rfl⟩

/-- what holds of the first k bytes while the scan goes on -/
structure Inv (s : ByteArray) (k : Nat) (p f : Int) (ok : Bool) : Prop where
  chars : Chars s k
  one : OnePt s k
  pt : PtIs s k p
  first : FirstIs s k f
  oks : OkIs s k ok

theorem inv_zero (s : ByteArray) : Inv s 0 (-1) (-1) false :=
  ⟨fun j h => by omega, fun i j _ h => by omega, .inr ⟨rfl, fun j h => by omega⟩, .inr ⟨rfl, fun j h => by omega⟩, ⟨fun h => by simp at h, fun ⟨j, h, _⟩ => by omega⟩⟩

theorem pt_keep {s : ByteArray} {k : Nat} {p : Int} (h : PtIs s k p) (hc : ¬ isP (bAt s k)) : PtIs s (k + 1) p := by
  rcases h with ⟨q, hq, rfl, h1, h2⟩ | ⟨rfl, hn⟩
  · exact .inl ⟨q, by omega, rfl, h1, h2⟩
  · refine .inr ⟨rfl, fun j hj => ?_⟩
    by_cases e : j = k
    · subst e; exact hc
    · exact hn j (by omega)
theorem first_keep {s : ByteArray} {k : Nat} {p : Int} (h : FirstIs s k p) (hc : ¬ isNZ (bAt s k) ∨ 0 ≤ p) : FirstIs s (k + 1) p := by
  rcases h with ⟨q, hq, rfl, h1, h2⟩ | ⟨rfl, hn⟩
  · exact .inl ⟨q, by omega, rfl, h1, h2⟩
  · refine .inr ⟨rfl, fun j hj => ?_⟩
    by_cases e : j = k
    · subst e; rcases hc with hc | hc
      · exact hc
      · omega
    · exact hn j (by omega)
theorem first_new {s : ByteArray} {k : Nat} {p : Int} (h : FirstIs s k p) (hp : p < 0) (hc : isNZ (bAt s k)) : FirstIs s (k + 1) k := by
  rcases h with ⟨q, hq, rfl, h1, h2⟩ | ⟨rfl, hn⟩
  · omega
  · exact .inl ⟨k, by omega, rfl, hc, hn⟩
theorem chars_step {s : ByteArray} {k : Nat} (h : Chars s k) (hc : isD (bAt s k) ∨ isP (bAt s k)) : Chars s (k + 1) := fun j hj => by
  by_cases e : j = k
  · subst e; exact hc
  · exact h j (by omega)
theorem one_keep {s : ByteArray} {k : Nat} (h : OnePt s k) (hc : ¬ isP (bAt s k) ∨ ∀ j, j < k → ¬ isP (bAt s j)) : OnePt s (k + 1) := fun i j hij hj hi => by
  by_cases e : j = k
  · subst e; rcases hc with hc | hc
    · exact hc
    · exact absurd hi (hc i hij)
  · exact h i j hij (by omega) hi
theorem ok_digit {s : ByteArray} {k : Nat} (hc : isD (bAt s k)) : OkIs s (k + 1) true := ⟨fun _ => ⟨k, by omega, hc⟩, fun _ => rfl⟩
theorem ok_keep {s : ByteArray} {k : Nat} {ok : Bool} (h : OkIs s k ok) (hc : ¬ isD (bAt s k)) : OkIs s (k + 1) ok := by
  refine h.trans ⟨fun ⟨j, hj, hd⟩ => ⟨j, by omega, hd⟩, fun ⟨j, hj, hd⟩ => ⟨j, ?_, hd⟩⟩
  rcases Nat.lt_or_ge j k with hl | hl
  · exact hl
  · obtain rfl : j = k := by omega
    exact absurd hd hc

theorem inv_nz_new {s : ByteArray} {k : Nat} {p f : Int} {ok : Bool} (h : Inv s k p f ok) (hc : isNZ (bAt s k)) (hf : f < 0) : Inv s (k + 1) p k true := by
  unfold isNZ at hc
  exact ⟨chars_step h.chars (.inl (by unfold isD; omega)), one_keep h.one (.inl (by unfold isP; omega)), pt_keep h.pt (by unfold isP; omega), first_new h.first hf (by unfold isNZ; omega), ok_digit (by unfold isD; omega)⟩
theorem inv_nz_old {s : ByteArray} {k : Nat} {p f : Int} {ok : Bool} (h : Inv s k p f ok) (hc : isNZ (bAt s k)) (hf : ¬ f < 0) : Inv s (k + 1) p f true := by
  unfold isNZ at hc
  exact ⟨chars_step h.chars (.inl (by unfold isD; omega)), one_keep h.one (.inl (by unfold isP; omega)), pt_keep h.pt (by unfold isP; omega), first_keep h.first (.inr (by omega)), ok_digit (by unfold isD; omega)⟩
theorem inv_zero_digit {s : ByteArray} {k : Nat} {p f : Int} {ok : Bool} (h : Inv s k p f ok) (hc : bAt s k = 48) : Inv s (k + 1) p f true :=
  ⟨chars_step h.chars (.inl (by unfold isD; omega)), one_keep h.one (.inl (by unfold isP; omega)), pt_keep h.pt (by unfold isP; omega), first_keep h.first (.inl (by unfold isNZ; omega)), ok_digit (by unfold isD; omega)⟩
theorem inv_point {s : ByteArray} {k : Nat} {p f : Int} {ok : Bool} (h : Inv s k p f ok) (hc : bAt s k = 46) (hp : p < 0) : Inv s (k + 1) k f ok := by
  have hn : ∀ j, j < k → ¬ isP (bAt s j) := by
    rcases h.pt with ⟨q, hq, rfl, _⟩ | ⟨_, hn⟩
    · omega
    · exact hn
  exact ⟨chars_step h.chars (.inr (by unfold isP; omega)), one_keep h.one (.inr hn), .inl ⟨k, by omega, rfl, by unfold isP; omega, hn⟩, first_keep h.first (.inl (by unfold isNZ; omega)), ok_keep h.oks (by unfold isD; omega)⟩

theorem not_exp_of_chars {s : ByteArray} {k : Nat} (h : Chars s k) : ∀ j, j < k → ¬ isE (bAt s j) := fun j hj => by
  have := h j hj
  unfold isD isP at this
  unfold isE; omega
theorem scan_done {s : ByteArray} {k : Nat} {p f : Int} {ok : Bool} (h : Inv s k p f ok) (hk : k ≤ s.size) (he : k < s.size → isE (bAt s k)) : Scan s (ptOr p k) f k ok :=
  ⟨k, ⟨hk, not_exp_of_chars h.chars, he⟩, .inl ⟨h.chars, h.one, rfl, ⟨p, h.pt, rfl⟩, h.first, h.oks⟩⟩
/-- the first exponent mark at or behind k -/
theorem exp_from (s : ByteArray) : ∀ (n k : Nat), s.size - k = n → k ≤ s.size → ∃ E, k ≤ E ∧ E ≤ s.size ∧ (∀ j, k ≤ j → j < E → ¬ isE (bAt s j)) ∧ (E < s.size → isE (bAt s E))
  | 0, k, hn, hk => ⟨k, by omega, by omega, fun j _ _ => by omega, fun h => by omega⟩
  | n + 1, k, hn, hk => by
    by_cases hc : isE (bAt s k)
    · exact ⟨k, by omega, by omega, fun j _ _ => by omega, fun _ => hc⟩
    · obtain ⟨E, h1, h2, h3, h4⟩ := exp_from s n (k + 1) (by omega) (by omega)
      refine ⟨E, by omega, h2, fun j hj1 hj2 => ?_, h4⟩
      by_cases e : j = k
      · subst e; exact hc
      · exact h3 j (by omega) hj2
theorem scan_bad {s : ByteArray} {k : Nat} {p f : Int} {ok : Bool} (h : Inv s k p f ok) (hk : k < s.size) (he : ¬ isE (bAt s k)) (hd : ¬ isD (bAt s k)) (hp : isP (bAt s k) → 0 ≤ p) : Scan s 0 0 0 false := by
  obtain ⟨E, h1, h2, h3, h4⟩ := exp_from s _ (k + 1) rfl (by omega)
  refine ⟨E, ⟨h2, fun j hj => ?_, h4⟩, .inr ⟨fun ⟨hc, ho⟩ => ?_, rfl, rfl, rfl, rfl⟩⟩
  · rcases Nat.lt_trichotomy j k with hl | hl | hl
    · exact not_exp_of_chars h.chars j hl
    · subst hl; exact he
    · exact h3 j (by omega) hj
  · rcases hc k (by omega) with hc | hc
    · exact hd hc
    · rcases h.pt with ⟨q, hq, rfl, hpq, _⟩ | ⟨rfl, _⟩
      · exact ho q k hq (by omega) hpq hc
      · have := hp hc; omega
end Go.Proofs.Qxb6601363a.Num
