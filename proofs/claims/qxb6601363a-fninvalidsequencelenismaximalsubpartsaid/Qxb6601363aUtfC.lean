import Derived.Test.Qxb6601363aUtfB
namespace Go.Proofs.Qxb6601363a.Utf
open Go.RowKit

/-- p, filled up with 128, completes to some longer encoding -/
def canP (p : ByteArray) : Prop := ∃ n, p.size < n ∧ n ≤ 4 ∧ encAt p n

set_option maxHeartbeats 1000000 in
theorem canW (p : ByteArray) (w : World) (h2 : 2 ≤ p.size) (h3 : p.size ≤ 3) :
    Calls Try.prog 34 #[.string p] w fun e w' => Tells (canP p) e ∧ w' = w := by
  go_enter Try.func34, Try.ntmps34
  go_wp2
  go_loop [3] (fun i => ∃ k : Nat, p.size < k ∧ k ≤ 5 ∧ i = .int .i64 k ∧ ∀ j, p.size < j → j < k → ¬ encAt p j) (fun i => 5 - (intOf i).toNat)
  case atStart => exact ⟨p.size + 1, by omega, by omega, by go_num, by omega⟩
  case round =>
    obtain ⟨k, hk1, hk5, rfl, hall⟩ := hrel
    have HA : Hid (∀ j, p.size < j → j < k → ¬ encAt p j) := hall
    clear hall
    by_cases h4 : k ≤ 4
    · have h4' : (k : Int) ≤ 4 := by omega
      have HW : Hid (∀ w, Calls Try.prog 32 #[.string p, .int .i64 k] w fun e w' => Tells (encAt p k) e ∧ w' = w) := fun w => padded p k w (by omega) h4 (by omega) (by omega)
      go_wp2_with fail
      refine (HW.out _).mono ?_
      rintro e w1 ⟨⟨bb, rfl, hbb⟩, rfl⟩
      have HB : Hid (bb = true ↔ encAt p k) := hbb
      clear hbb
      cases bb
      · go_wp2
        go_round
        case rel => exact ⟨k + 1, by omega, by omega, by go_num, fun j h1 h2 => by
          by_cases e : j = k
          · subst e; intro hE; exact absurd (HB.out.2 hE) (by decide)
          · exact HA.out j h1 (by omega)⟩
        case measure => simp [intOf]; omega
      · go_wp2
        go_ret
        exact ⟨tells_t ⟨k, hk1, h4, HB.out.1 (by trivial)⟩, rfl⟩
    · have h4' : ¬ (k : Int) ≤ 4 := by omega
      have HN : Hid (¬ canP p) := by
        rintro ⟨n, n1, n4, hE⟩
        exact HA.out n n1 (by omega) hE
      go_wp2
      go_ret
      exact ⟨tells_f HN.out, rfl⟩

def can (s : ByteArray) (j : Nat) : Prop := canP (s.extract 0 j)
/-- q is the greatest length below m that can still be completed, 1 for none -/
def Best (s : ByteArray) (m q : Nat) : Prop :=
  (q = 1 ∨ (2 ≤ q ∧ q < m ∧ q ≤ s.size ∧ can s q)) ∧ ∀ j, 2 ≤ j → q < j → j < m → j ≤ s.size → ¬ can s j

set_option maxHeartbeats 1000000 in
theorem modelW (s : ByteArray) (w : World) (h0 : 0 < s.size) (hs : s.size ≤ 2000000) :
    Calls Try.prog 23 #[.string s] w fun e w' => Gives (Best s 4) e ∧ w' = w := by
  go_enter Try.func23, Try.ntmps23
  go_wp2
  go_loop [3, 4] (fun n i => ∃ k q : Nat, 2 ≤ k ∧ k ≤ 4 ∧ i = .int .i64 k ∧ n = .int .i64 q ∧ Best s k q) (fun _ i => 5 - (intOf i).toNat)
  case atStart => exact ⟨2, 1, by omega, by omega, rfl, rfl, .inl rfl, by omega⟩
  case round =>
    obtain ⟨k, q, hk2, hk4, rfl, rfl, hb⟩ := hrel
    have HB : Hid (Best s k q) := hb
    clear hb
    by_cases hlt : k ≤ 3 ∧ k ≤ s.size
    · obtain ⟨h3, hks⟩ := hlt
      have h3' : (k : Int) ≤ 3 := by omega
      have hks' : (k : Int) ≤ (s.size : Int) := by omega
      have HW : Hid (∀ w, Calls Try.prog 34 #[.string (s.extract 0 k)] w fun e w' => Tells (can s k) e ∧ w' = w) := fun w => canW (s.extract 0 k) w (by rw [size_cut s k hks]; omega) (by rw [size_cut s k hks]; omega)
      go_wp2_with fail
      refine (HW.out _).mono ?_
      rintro e w1 ⟨⟨bb, rfl, hbb⟩, rfl⟩
      have HC : Hid (bb = true ↔ can s k) := hbb
      clear hbb
      obtain ⟨hq, hrest⟩ := HB.out
      have HQ : Hid (q = 1 ∨ (2 ≤ q ∧ q < k ∧ q ≤ s.size ∧ can s q)) := hq
      have HR : Hid (∀ j, 2 ≤ j → q < j → j < k → j ≤ s.size → ¬ can s j) := hrest
      clear hq hrest
      cases bb
      · go_wp2
        go_round
        case rel =>
          refine ⟨k + 1, q, by omega, by omega, by go_num, rfl, ?_, fun j h1 h2 h3 h4 => ?_⟩
          · rcases HQ.out with h | ⟨h1, h2, h3, h4⟩
            · exact .inl h
            · exact .inr ⟨h1, by omega, h3, h4⟩
          · by_cases e : j = k
            · subst e; intro hE; exact absurd (HC.out.2 hE) (by decide)
            · exact HR.out j h1 h2 (by omega) h4
        case measure => simp [intOf]; omega
      · go_wp2
        go_round
        case rel => exact ⟨k + 1, k, by omega, by omega, by go_num, rfl, .inr ⟨hk2, by omega, hks, HC.out.1 (by trivial)⟩, fun j h1 h2 h3 h4 => by omega⟩
        case measure => simp [intOf]; omega
    · have HN : Hid (Best s 4 q) := by
        obtain ⟨hq, hrest⟩ := HB.out
        refine ⟨?_, fun j h1 h2 h3 h4 => hrest j h1 h2 (by omega) h4⟩
        rcases hq with h | ⟨h1, h2, h3, h4⟩
        · exact .inl h
        · exact .inr ⟨h1, by omega, h3, h4⟩
      by_cases h3 : k ≤ 3
      · have h3' : (k : Int) ≤ 3 := by omega
        have hks' : ¬ (k : Int) ≤ (s.size : Int) := by omega
        go_wp2
        go_ret
        exact ⟨gives rfl HN.out, rfl⟩
      · have h3' : ¬ (k : Int) ≤ 3 := by omega
        go_wp2
        go_ret
        exact ⟨gives rfl HN.out, rfl⟩

theorem can2 (s : ByteArray) (h : 2 ≤ s.size) : can s 2 ↔ (224 ≤ padAt s 0 ∧ padAt s 0 ≤ 244 ∧ okAt (padAt s 0) 1 (padAt s 1)) := by
  have hz := size_cut s 2 h
  have e0 := padAt_cut s 2 0 h (by omega)
  have e1 := padAt_cut s 2 1 h (by omega)
  have e2 : padAt (s.extract 0 2) 2 = 128 := padAt_out (by omega)
  have e3 : padAt (s.extract 0 2) 3 = 128 := padAt_out (by omega)
  unfold can canP encAt
  rw [hz, e0, e1, e2, e3]
  constructor
  · rintro ⟨n, n1, n4, hE⟩
    rcases (by omega : n = 3 ∨ n = 4) with rfl | rfl
    · unfold encP at hE; unfold okAt; omega
    · unfold encP at hE; unfold okAt; omega
  · rintro ⟨h1, h2, h3⟩
    unfold okAt at h3
    by_cases c : padAt s 0 ≤ 239
    · exact ⟨3, by omega, by omega, by unfold encP; omega⟩
    · exact ⟨4, by omega, by omega, by unfold encP; omega⟩

theorem can3 (s : ByteArray) (h : 3 ≤ s.size) : can s 3 ↔ (240 ≤ padAt s 0 ∧ padAt s 0 ≤ 244 ∧ okAt (padAt s 0) 1 (padAt s 1) ∧ okAt (padAt s 0) 2 (padAt s 2)) := by
  have hz := size_cut s 3 h
  have e0 := padAt_cut s 3 0 h (by omega)
  have e1 := padAt_cut s 3 1 h (by omega)
  have e2 := padAt_cut s 3 2 h (by omega)
  have e3 : padAt (s.extract 0 3) 3 = 128 := padAt_out (by omega)
  unfold can canP encAt
  rw [hz, e0, e1, e2, e3]
  constructor
  · rintro ⟨n, n1, n4, hE⟩
    obtain rfl : n = 4 := by omega
    unfold encP at hE; unfold okAt; omega
  · rintro ⟨h1, h2, h3, h4⟩
    unfold okAt at h3 h4
    exact ⟨4, by omega, by omega, by unfold encP; omega⟩

theorem inv_best {s : ByteArray} {n q : Nat} (hn : InvLen s n) (hns : ¬ starts s) (hb : Best s 4 q) : n = q := by
  obtain ⟨n1, n2, n3, n4⟩ := hn
  obtain ⟨hq, hrest⟩ := hb
  have hq4 : q ≤ 3 := by rcases hq with h | h <;> omega
  by_cases ho : padAt s 0 < 194 ∨ 244 < padAt s 0
  · have := n3 ho
    rcases hq with h | ⟨h1, h2, h3, h4⟩
    · omega
    · rcases (by omega : q = 2 ∨ q = 3) with rfl | rfl
      · have := (can2 s h3).1 h4; omega
      · have := (can3 s h3).1 h4; omega
  · obtain ⟨ha, hstop⟩ := n4 (by omega)
    -- how far the run goes
    have r2 : 2 ≤ n → 223 < padAt s 0 := fun h => by
      rcases (by omega : 223 < padAt s 0 ∨ padAt s 0 ≤ 223) with c | c
      · exact c
      · exfalso; apply hns
        have h1 := ha 1 (by omega) (by omega)
        unfold okAt at h1
        exact ⟨2, by omega, by omega, by omega, by unfold encAt encP; omega⟩
    have r3 : 3 ≤ n → 239 < padAt s 0 := fun h => by
      rcases (by omega : 239 < padAt s 0 ∨ padAt s 0 ≤ 239) with c | c
      · exact c
      · exfalso; apply hns
        have h1 := ha 1 (by omega) (by omega)
        have h2 := ha 2 (by omega) (by omega)
        have := r2 (by omega)
        unfold okAt at h1 h2
        exact ⟨3, by omega, by omega, by omega, by unfold encAt encP; omega⟩
    have r4 : n ≤ 3 := by
      rcases Nat.lt_or_ge 3 n with c | c
      · exfalso; apply hns
        have h1 := ha 1 (by omega) (by omega)
        have h2 := ha 2 (by omega) (by omega)
        have h3 := ha 3 (by omega) (by omega)
        have := r3 (by omega)
        unfold okAt at h1 h2 h3
        exact ⟨4, by omega, by omega, by omega, by unfold encAt encP; omega⟩
      · exact c
    rcases Nat.lt_trichotomy n q with hl | hl | hl
    · exfalso
      rcases hq with h | ⟨h1, h2, h3, h4⟩
      · omega
      · rcases (by omega : q = 2 ∨ q = 3) with rfl | rfl
        · have hc := (can2 s h3).1 h4
          obtain rfl : n = 1 := by omega
          exact hstop (by omega) hc.2.2
        · have hc := (can3 s h3).1 h4
          rcases (by omega : n = 1 ∨ n = 2) with rfl | rfl
          · exact hstop (by omega) hc.2.2.1
          · exact hstop (by omega) hc.2.2.2
    · exact hl
    · exfalso
      rcases (by omega : n = 2 ∨ n = 3) with rfl | rfl
      · exact hrest 2 (by omega) hl (by omega) n2 ((can2 s n2).2 ⟨by have := r2 (by omega); omega, by omega, ha 1 (by omega) (by omega)⟩)
      · exact hrest 3 (by omega) hl (by omega) n2 ((can3 s n2).2 ⟨by have := r3 (by omega); omega, by omega, ha 1 (by omega) (by omega), ha 2 (by omega) (by omega)⟩)
end Go.Proofs.Qxb6601363a.Utf
