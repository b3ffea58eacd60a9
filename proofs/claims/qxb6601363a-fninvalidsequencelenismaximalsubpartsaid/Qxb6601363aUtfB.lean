import Derived.Test.Qxb6601363aUtf
namespace Go.Proofs.Qxb6601363a.Utf
open Go.RowKit

theorem enc_congr {b0 b1 b2 b3 c0 c1 c2 c3 : Int} {n : Nat} (h0 : b0 = c0) (h1 : 2 ≤ n → b1 = c1) (h2 : 3 ≤ n → b2 = c2) (h3 : 4 ≤ n → b3 = c3) : encP b0 b1 b2 b3 n ↔ encP c0 c1 c2 c3 n := by
  subst h0
  by_cases n4 : 4 ≤ n
  · obtain rfl := h1 (by omega)
    obtain rfl := h2 (by omega)
    obtain rfl := h3 n4
    exact Iff.rfl
  by_cases n3 : 3 ≤ n
  · obtain rfl := h1 (by omega)
    obtain rfl := h2 n3
    obtain rfl : n = 3 := by omega
    unfold encP; simp
  by_cases n2 : 2 ≤ n
  · obtain rfl := h1 n2
    obtain rfl : n = 2 := by omega
    unfold encP; simp
  · have : n = 0 ∨ n = 1 := by omega
    rcases this with rfl | rfl <;> (unfold encP; simp)

theorem padAt_cut (s : ByteArray) (n i : Nat) (hn : n ≤ s.size) (hi : i < n) : padAt (s.extract 0 n) i = padAt s i := by
  have hz : (s.extract 0 n).size = n := by simp; omega
  rw [padAt_in (by omega), padAt_in (by omega)]
  congr 2
  simp [ByteArray.getElem_extract]
theorem size_cut (s : ByteArray) (n : Nat) (hn : n ≤ s.size) : (s.extract 0 n).size = n := by simp; omega

def encAt (s : ByteArray) (n : Nat) : Prop := encP (padAt s 0) (padAt s 1) (padAt s 2) (padAt s 3) n
theorem enc_cut (s : ByteArray) (n : Nat) (h1 : 1 ≤ n) (hn : n ≤ s.size) : encAt (s.extract 0 n) n ↔ encAt s n := by
  unfold encAt
  exact enc_congr (padAt_cut s n 0 hn (by omega)) (fun h => padAt_cut s n 1 hn (by omega)) (fun h => padAt_cut s n 2 hn (by omega)) (fun h => padAt_cut s n 3 hn (by omega))

/-- s's first rune decodes -/
def starts (s : ByteArray) : Prop := ∃ n, 1 ≤ n ∧ n ≤ 4 ∧ n ≤ s.size ∧ encAt s n

set_option maxHeartbeats 1000000 in
theorem startsW (s : ByteArray) (w : World) :
    Calls Try.prog 21 #[.string s] w fun e w' => Tells (starts s) e ∧ w' = w := by
  go_enter Try.func21, Try.ntmps21
  go_wp2
  go_loop [3] (fun i => ∃ k : Nat, 1 ≤ k ∧ k ≤ 5 ∧ i = .int .i64 k ∧ ∀ j, 1 ≤ j → j < k → j ≤ s.size → ¬ encAt s j) (fun i => 5 - (intOf i).toNat)
  case atStart => exact ⟨1, by omega, by omega, rfl, by omega⟩
  case round =>
    obtain ⟨k, hk1, hk5, rfl, hall⟩ := hrel
    have HA : Hid (∀ j, 1 ≤ j → j < k → j ≤ s.size → ¬ encAt s j) := hall
    clear hall
    by_cases hlt : k ≤ 4 ∧ k ≤ s.size
    · obtain ⟨h4, hks⟩ := hlt
      have h4' : (k : Int) ≤ 4 := by omega
      have hks' : (k : Int) ≤ (s.size : Int) := by omega
      have hw := fun w => padded (s.extract 0 k) k w hk1 h4 (by rw [size_cut s k hks]; omega) (by rw [size_cut s k hks]; omega)
      have HW : Hid (∀ w, Calls Try.prog 32 #[.string (s.extract 0 k), .int .i64 k] w fun e w' => Tells (encAt (s.extract 0 k) k) e ∧ w' = w) := hw
      clear hw
      go_wp2_with fail
      refine (HW.out _).mono ?_
      rintro e w1 ⟨⟨bb, rfl, hbb⟩, rfl⟩
      rw [enc_cut s k hk1 hks] at hbb
      have HB : Hid (bb = true ↔ encAt s k) := hbb
      clear hbb
      cases bb
      · go_wp2
        go_round
        case rel => exact ⟨k + 1, by omega, by omega, by go_num, fun j h1 h2 h3 => by
          by_cases e : j = k
          · subst e; intro hE; exact absurd (HB.out.2 hE) (by decide)
          · exact HA.out j h1 (by omega) h3⟩
        case measure => simp [intOf]; omega
      · go_wp2
        go_ret
        exact ⟨tells_t ⟨k, hk1, h4, hks, HB.out.1 (by trivial)⟩, rfl⟩
    · have HN : Hid (¬ starts s) := by
        rintro ⟨n, n1, n4, ns, hE⟩
        exact HA.out n n1 (by omega) ns hE
      by_cases h4 : k ≤ 4
      · have h4' : (k : Int) ≤ 4 := by omega
        have hks' : ¬ (k : Int) ≤ (s.size : Int) := by omega
        go_wp2
        go_ret
        exact ⟨tells_f HN.out, rfl⟩
      · have h4' : ¬ (k : Int) ≤ 4 := by omega
        go_wp2
        go_ret
        exact ⟨tells_f HN.out, rfl⟩

/-- may byte b stand at place j of a sequence that begins with b0? -/
def okAt (b0 : Int) (j : Nat) (b : Int) : Prop :=
  128 ≤ b ∧ b ≤ 191 ∧ (j = 1 → (b0 = 224 → 160 ≤ b) ∧ (b0 = 237 → b ≤ 159) ∧ (b0 = 240 → 144 ≤ b) ∧ (b0 = 244 → b ≤ 143))

/-- n is the length of the run -/
def InvLen (s : ByteArray) (n : Nat) : Prop :=
  1 ≤ n ∧ n ≤ s.size ∧ ((padAt s 0 < 194 ∨ 244 < padAt s 0) → n = 1) ∧
  ((194 ≤ padAt s 0 ∧ padAt s 0 ≤ 244) → (∀ j, 1 ≤ j → j < n → okAt (padAt s 0) j (padAt s j)) ∧ (n < s.size → ¬ okAt (padAt s 0) n (padAt s n)))

theorem inv_unique {s : ByteArray} {n m : Nat} (hn : InvLen s n) (hm : InvLen s m) : n = m := by
  obtain ⟨n1, n2, n3, n4⟩ := hn
  obtain ⟨m1, m2, m3, m4⟩ := hm
  by_cases h : padAt s 0 < 194 ∨ 244 < padAt s 0
  · rw [n3 h, m3 h]
  · have h' : 194 ≤ padAt s 0 ∧ padAt s 0 ≤ 244 := by omega
    obtain ⟨na, nb⟩ := n4 h'
    obtain ⟨ma, mb⟩ := m4 h'
    rcases Nat.lt_trichotomy n m with hl | hl | hl
    · exact absurd (ma n n1 hl) (nb (by omega))
    · exact hl
    · exact absurd (na m m1 hl) (mb (by omega))

/-- the call gives a number that p holds of -/
def Gives (p : Nat → Prop) (e : Ending) : Prop := ∃ n : Nat, e = .returned (.int .i64 n) ∧ p n
theorem gives {p : Nat → Prop} {n : Nat} {x : Int} (hx : x = n) (h : p n) : Gives p (.returned (.int .i64 x)) := ⟨n, by rw [hx], h⟩

set_option maxHeartbeats 1000000 in
theorem invalidW (s : ByteArray) (w : World) (h0 : 0 < s.size) (hs : s.size ≤ 2000000) :
    Calls Try.prog 33 #[.string s] w fun e w' => Gives (InvLen s) e ∧ w' = w := by
  have HP : Hid (padAt s 0 = (s[0].toNat : Int)) := padAt_in h0
  have hb0 : (s[0].toNat : Int) ≤ 255 := by have := UInt8.toNat_lt s[0]; omega
  by_cases hout : (s[0].toNat : Int) < 194 ∨ 244 < (s[0].toNat : Int)
  · go_enter Try.func33, Try.ntmps33
    go_wp2
    all_goals
      go_ret
      refine ⟨gives (n := 1) rfl ⟨by omega, by omega, fun _ => rfl, fun h => ?_⟩, rfl⟩
      rw [HP.out] at h
      omega
  · have hin : 194 ≤ (s[0].toNat : Int) := by omega
    have hin' : (s[0].toNat : Int) ≤ 244 := by omega
    clear hout
    go_enter Try.func33, Try.ntmps33
    go_wp2
    all_goals
      go_loop [3, 4, 6] (fun lo hi n => ∃ (k : Nat) (l h : Int), 1 ≤ k ∧ k ≤ s.size ∧ n = .int .i64 k ∧ lo = .int .u8 l ∧ hi = .int .u8 h ∧ (∀ b, (l ≤ b ∧ b ≤ h) ↔ okAt (padAt s 0) k b) ∧ ∀ j, 1 ≤ j → j < k → okAt (padAt s 0) j (padAt s j)) (fun _ _ n => s.size - (intOf n).toNat)
      case atStart =>
        have hp0 := HP.out
        refine ⟨1, _, _, by omega, by omega, rfl, rfl, rfl, fun b => ?_, by omega⟩
        rw [hp0]
        clear hp0 HP
        generalize (s[0].toNat : Int) = x at *
        simp only [beq_iff_eq, beq_eq_false_iff_ne] at *
        unfold okAt
        omega
      case round =>
        obtain ⟨k, l, h, hk1, hks, rfl, rfl, rfl, hlh, hall⟩ := hrel
        have HL : Hid (∀ b, (l ≤ b ∧ b ≤ h) ↔ okAt (padAt s 0) k b) := hlh
        have HA : Hid (∀ j, 1 ≤ j → j < k → okAt (padAt s 0) j (padAt s j)) := hall
        clear hlh hall
        by_cases hlt : k < s.size
        · have HK : Hid (padAt s k = (s[k].toNat : Int)) := padAt_in hlt
          have hlt' : (k : Int) < (s.size : Int) := by omega
          by_cases hc : l ≤ (s[k].toNat : Int) ∧ (s[k].toNat : Int) ≤ h
          · obtain ⟨hc1, hc2⟩ := hc
            go_wp2
            go_round
            case rel =>
              refine ⟨k + 1, 128, 191, by omega, by omega, by go_num, rfl, rfl, fun b => ?_, fun j h1 h2 => ?_⟩
              · unfold okAt; omega
              · by_cases e : j = k
                · subst e; rw [HK.out]; exact (HL.out _).1 ⟨hc1, hc2⟩
                · exact HA.out j h1 (by omega)
            case measure => simp [intOf]; omega
          · have HN : Hid (InvLen s k) := by
              refine ⟨hk1, by omega, fun h => ?_, fun _ => ⟨HA.out, fun _ => ?_⟩⟩
              · rw [HP.out] at h; omega
              · rw [HK.out]; exact fun h => hc ((HL.out _).2 h)
            by_cases hc1 : l ≤ (s[k].toNat : Int)
            · have hc2 : ¬ (s[k].toNat : Int) ≤ h := fun h' => hc ⟨hc1, h'⟩
              clear hc
              go_wp2
              go_ret
              exact ⟨gives rfl HN.out, rfl⟩
            · clear hc
              go_wp2
              go_ret
              exact ⟨gives rfl HN.out, rfl⟩
        · have HN : Hid (InvLen s k) := by
            refine ⟨hk1, by omega, fun h => ?_, fun _ => ⟨HA.out, fun h => absurd h hlt⟩⟩
            rw [HP.out] at h; omega
          have hlt' : ¬ (k : Int) < (s.size : Int) := by omega
          go_wp2
          go_ret
          exact ⟨gives rfl HN.out, rfl⟩

theorem invalidZ (s : ByteArray) (w : World) (h0 : 0 < s.size) (hs : s.size ≤ 2000000) :
    Calls Try.prog 22 #[.string s] w fun e w' => Gives (InvLen s) e ∧ w' = w := by
  go_enter Try.func22, Try.ntmps22
  go_wp2_with fail
  refine (invalidW _ _ h0 hs).mono ?_
  rintro e w1 ⟨⟨n, rfl, hn⟩, rfl⟩
  have HN : Hid (InvLen s n) := hn
  clear hn
  go_wp2
  go_ret
  exact ⟨gives rfl HN.out, rfl⟩
end Go.Proofs.Qxb6601363a.Utf
