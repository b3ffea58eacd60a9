import Derived.Test.Qxb6600194aReq
import Derived.BigRegion
namespace Go.Proofs.Qxb6600194a.Req
open Go.RowKit Go.Maps

theorem info45 : (Try.prog.info? 45).map (fun i => (i.zero, i.size, i.bytes)) = some (some (.agg #[.int .i64 0, .int .i64 0]), 2, 16) := by kernel_rfl
theorem info35 : (Try.prog.info? 35).map (fun i => (i.zero, i.size, i.bytes)) = some (some (.agg #[.string ByteArray.empty, .bool false]), 2, 24) := by kernel_rfl

/-- the cells of a slice of pairs, one after another -/
def flat (V0 V1 : Nat → Value) (n : Nat) : List Value := (List.range n).flatMap fun i => [V0 i, V1 i]
theorem flat_succ (V0 V1 : Nat → Value) (n : Nat) : flat V0 V1 (n + 1) = flat V0 V1 n ++ [V0 n, V1 n] := by simp [flat, List.range_succ]
theorem flat_length (V0 V1 : Nat → Value) : ∀ n, (flat V0 V1 n).length = n * 2
  | 0 => rfl
  | n + 1 => by rw [flat_succ, List.length_append, flat_length V0 V1 n]; simp; omega
theorem flat_get (V0 V1 : Nat → Value) : ∀ n i, i < n → (flat V0 V1 n)[i * 2]? = some (V0 i) ∧ (flat V0 V1 n)[i * 2 + 1]? = some (V1 i)
  | 0, i, h => by omega
  | n + 1, i, h => by
    rw [flat_succ]
    have hl := flat_length V0 V1 n
    by_cases e : i = n
    · subst e
      rw [List.getElem?_append_right (by omega), List.getElem?_append_right (by omega), hl]
      simp
    · have ih := flat_get V0 V1 n i (by omega)
      rw [List.getElem?_append_left (by omega), List.getElem?_append_left (by omega)]
      exact ih

/-- what 'make([]T, n)' lays, T a struct of two cells -/
theorem made_pairs {P : Program} {t e : TypeId} {z : Value} {bytes : Nat} (w : World) (n : Nat) (ht : P.underlying t = some (.slice e)) (hinfo : (P.info? e).map (fun i => (i.zero, i.size, i.bytes)) = some (some z, 2, bytes)) (hb : bytes ≤ 24) (hn : n ≤ 65536) :
    ∃ W1 f, (Instr.makeSlice t (.int .i64 n) (.int .i64 n)).run P w = .ok (.slice (some ⟨w.heap.size, 0, none⟩) n n) W1 ∧ W1.rowIs w.heap.size e (n * 2) f ∧ Below w.heap.size w W1 := by
  obtain ⟨i, hi, hz0, hz1, hz2⟩ := info_parts hinfo
  have hmk := run_make (P := P) w t e i z ht hi hz0 .i64 .i64 n n (by omega) (by omega) (by rw [hz2]; have : (bytes : Int) * (n : Int) ≤ 24 * 65536 := Int.mul_le_mul (by omega) (by omega) (by omega) (by omega); omega) (by omega)
  rw [Int.toNat_natCast] at hmk
  refine ⟨_, fun j => z.cells[j % z.cells.size]!, hmk, ⟨_, heap_alloc_new w _, by rw [size_madeCells, hz1], fun j hj => ?_⟩, (Below.refl _ _).alloc (Nat.le_refl _) _⟩
  simp [madeCells, hz1, hj]

/-- a row of pairs, filled, is owned -/
theorem owns_of_row {w : World} {g base : Nat} {e : TypeId} {n : Nat} {f V0 V1 : Nat → Value} (h : w.rowIs g e (n * 2) f) (hb : base ≤ g) (hn : n ≤ maxLen) (hf : ∀ j, j < n → f (j * 2) = V0 j ∧ f (j * 2 + 1) = V1 j) :
    w.ownsRow base e 2 (.slice (some ⟨g, 0, none⟩) n n) n (flat V0 V1 n) := by
  obtain ⟨c, hc, hs, hcf⟩ := h
  refine ⟨flat_length _ _ _, .inr ⟨g, n, c, rfl, hb, hc, Nat.le_refl _, hn, hs, ?_⟩⟩
  rw [List.take_of_length_le (by simp; omega)]
  apply List.ext_getElem?
  intro j
  by_cases hj : j < n * 2
  · have h1 := hcf j hj
    have h2 := flat_get V0 V1 n (j / 2) (by omega)
    have h3 := hf (j / 2) (by omega)
    rw [Array.getElem?_toList, h1]
    rcases Nat.mod_two_eq_zero_or_one j with hm | hm
    · have ej : j / 2 * 2 = j := by omega
      rw [ej] at h2 h3
      rw [h2.1, h3.1]
    · have ej : j / 2 * 2 + 1 = j := by omega
      rw [ej] at h2 h3
      rw [h2.2, h3.2]
  · rw [List.getElem?_eq_none (by simp; omega), List.getElem?_eq_none (by rw [flat_length]; omega)]

set_option maxHeartbeats 1000000 in
theorem mkth_some (w : World) (x : Addr) (lt cap : Nat) (A D : Nat → Int) (hltm : lt ≤ 65536) (hth : Pairs w (some x) lt (fun i => .int .i64 (A i)) (fun i => .int .i64 (D i))) :
    Calls Try.prog 11 #[.slice (some x) lt cap] w fun e w' => ∃ v, e = .returned v ∧ w'.ownsRow w.heap.size 45 2 v lt (flat (fun i => .int .i64 (A i)) (fun i => .int .i64 (D i)) lt) ∧ Below w.heap.size w w' := by
  obtain ⟨W1, f0, hmk, hrow, hB1⟩ := made_pairs w lt Try.underlying27 info45 (by omega) hltm
  have heq := Lib.run_eql_slice_nil w 22 48 (some x) lt cap 0 0 Try.underlying22
  go_enter Try.func11, Try.ntmps11
  go_wp2
  clear hmk heq
  go_loopw [4] (fun i wr => ∃ k : Nat, k ≤ lt ∧ i = .int .i64 k ∧ Below w.heap.size w wr ∧ ∃ f, wr.rowIs w.heap.size 45 (lt * 2) f ∧ ∀ j, j < k → f (j * 2) = .int .i64 (A j) ∧ f (j * 2 + 1) = .int .i64 (D j)) (fun i _ => lt - (intOf i).toNat)
  case atStart => exact ⟨0, Nat.zero_le _, rfl, hB1, f0, hrow, fun j hj => by omega⟩
  case round =>
    clear hB1 hrow
    obtain ⟨k, hk, rfl, hbel, f, hrow, hf⟩ := hrel
    by_cases hkl : k < lt
    · rcases hth with h0 | ⟨b, off, hx, hb, hc⟩
      · omega
      cases hx
      have hc0 : wr.cell? ⟨b, off + k * 2, none⟩ = some (.int .i64 (A k)) := by rw [hbel.cell (p := ⟨b, off + k * 2, none⟩) hb]; exact (hc k hkl).1
      have hc1 : wr.cell? ⟨b, off + k * 2 + 1, none⟩ = some (.int .i64 (D k)) := by rw [hbel.cell (p := ⟨b, off + k * 2 + 1, none⟩) hb]; exact (hc k hkl).2
      have hd0 := hrow.cell (i := k * 2) (by omega)
      have hd1 := hrow.cell (i := k * 2 + 1) (by omega)
      have hf0 := hrow.frozen (k * 2)
      have hf1 := hrow.frozen (k * 2 + 1)
      have HF : Hid (∀ j, j < k → f (j * 2) = .int .i64 (A j) ∧ f (j * 2 + 1) = .int .i64 (D j)) := hf
      have HR : Hid (wr.rowIs w.heap.size 45 (lt * 2) f) := hrow
      clear hf hc hrow
      generalize f (k * 2) = y0 at hd0
      generalize f (k * 2 + 1) = y1 at hd1
      go_wp2
      go_region
      go_wp2
      go_roundw
      case rel =>
        refine ⟨k + 1, by omega, by go_num, ((hbel.setCell (p := ⟨w.heap.size, k * 2, none⟩) (Nat.le_refl _) _).setCell (p := ⟨w.heap.size, k * 2 + 1, none⟩) (Nat.le_refl _) _).drew, _, ((HR.out.set (k * 2) _).set (k * 2 + 1) _).drew, fun j hj => ?_⟩
        by_cases e : j = k
        · subst e
          exact ⟨by rw [if_neg (by omega), if_pos rfl], by rw [if_pos rfl]⟩
        · have := HF.out j (by omega)
          exact ⟨by rw [if_neg (by omega), if_neg (by omega)]; exact this.1, by rw [if_neg (by omega), if_neg (by omega)]; exact this.2⟩
      case measure => simp [intOf]; omega
    · obtain rfl : k = lt := by omega
      go_wp2
      go_ret
      exact ⟨_, rfl, owns_of_row hrow (Nat.le_refl _) (by unfold maxLen; omega) hf, hbel⟩
set_option maxHeartbeats 1000000 in
theorem mkrv_some (w : World) (x : Addr) (lr cap : Nat) (U : Nat → ByteArray) (B : Nat → Bool) (hlrm : lr ≤ 65536) (hrv : Pairs w (some x) lr (fun i => .string (U i)) (fun i => .bool (B i))) :
    Calls Try.prog 12 #[.slice (some x) lr cap] w fun e w' => ∃ v, e = .returned v ∧ w'.ownsRow w.heap.size 35 2 v lr (flat (fun i => .string (U i)) (fun i => .bool (B i)) lr) ∧ Below w.heap.size w w' := by
  obtain ⟨W1, f0, hmk, hrow, hB1⟩ := made_pairs w lr Try.underlying29 info35 (by omega) hlrm
  have heq := Lib.run_eql_slice_nil w 23 34 (some x) lr cap 0 0 Try.underlying23
  go_enter Try.func12, Try.ntmps12
  go_wp2
  clear hmk heq
  go_loopw [4] (fun i wr => ∃ k : Nat, k ≤ lr ∧ i = .int .i64 k ∧ Below w.heap.size w wr ∧ ∃ f, wr.rowIs w.heap.size 35 (lr * 2) f ∧ ∀ j, j < k → f (j * 2) = .string (U j) ∧ f (j * 2 + 1) = .bool (B j)) (fun i _ => lr - (intOf i).toNat)
  case atStart => exact ⟨0, Nat.zero_le _, rfl, hB1, f0, hrow, fun j hj => by omega⟩
  case round =>
    clear hB1 hrow
    obtain ⟨k, hk, rfl, hbel, f, hrow, hf⟩ := hrel
    by_cases hkl : k < lr
    · rcases hrv with h0 | ⟨b, off, hx, hb, hc⟩
      · omega
      cases hx
      have hc0 : wr.cell? ⟨b, off + k * 2, none⟩ = some (.string (U k)) := by rw [hbel.cell (p := ⟨b, off + k * 2, none⟩) hb]; exact (hc k hkl).1
      have hc1 : wr.cell? ⟨b, off + k * 2 + 1, none⟩ = some (.bool (B k)) := by rw [hbel.cell (p := ⟨b, off + k * 2 + 1, none⟩) hb]; exact (hc k hkl).2
      have hd0 := hrow.cell (i := k * 2) (by omega)
      have hd1 := hrow.cell (i := k * 2 + 1) (by omega)
      have hf0 := hrow.frozen (k * 2)
      have hf1 := hrow.frozen (k * 2 + 1)
      have HF : Hid (∀ j, j < k → f (j * 2) = .string (U j) ∧ f (j * 2 + 1) = .bool (B j)) := hf
      have HR : Hid (wr.rowIs w.heap.size 35 (lr * 2) f) := hrow
      clear hf hc hrow
      generalize f (k * 2) = y0 at hd0
      generalize f (k * 2 + 1) = y1 at hd1
      go_wp2
      go_region
      go_wp2
      go_roundw
      case rel =>
        refine ⟨k + 1, by omega, by go_num, ((hbel.setCell (p := ⟨w.heap.size, k * 2, none⟩) (Nat.le_refl _) _).setCell (p := ⟨w.heap.size, k * 2 + 1, none⟩) (Nat.le_refl _) _).drew, _, ((HR.out.set (k * 2) _).set (k * 2 + 1) _).drew, fun j hj => ?_⟩
        by_cases e : j = k
        · subst e
          exact ⟨by rw [if_neg (by omega), if_pos rfl], by rw [if_pos rfl]⟩
        · have := HF.out j (by omega)
          exact ⟨by rw [if_neg (by omega), if_neg (by omega)]; exact this.1, by rw [if_neg (by omega), if_neg (by omega)]; exact this.2⟩
      case measure => simp [intOf]; omega
    · obtain rfl : k = lr := by omega
      go_wp2
      go_ret
      exact ⟨_, rfl, owns_of_row hrow (Nat.le_refl _) (by unfold maxLen; omega) hf, hbel⟩

/-- 'lawThresholds': a copy of its own -/
theorem mkth (w : World) (a : Option Addr) (lt cap : Nat) (A D : Nat → Int) (hltm : lt ≤ 65536) (hth : Pairs w a lt (fun i => .int .i64 (A i)) (fun i => .int .i64 (D i))) (hn : a = none → lt = 0 ∧ cap = 0) :
    Calls Try.prog 11 #[.slice a lt cap] w fun e w' => ∃ v, e = .returned v ∧ w'.ownsRow w.heap.size 45 2 v lt (flat (fun i => .int .i64 (A i)) (fun i => .int .i64 (D i)) lt) ∧ Below w.heap.size w w' := by
  cases a with
  | some x => exact mkth_some w x lt cap A D hltm hth
  | none =>
    obtain ⟨rfl, rfl⟩ := hn rfl
    have heq := Lib.run_eql_slice_nil w 22 48 none 0 0 0 0 Try.underlying22
    go_enter Try.func11, Try.ntmps11
    go_wp2
    go_ret
    exact ⟨_, rfl, World.ownsRow_nil _ _ _ _, Below.refl _ _⟩

/-- 'lawReviews': a copy of its own -/
theorem mkrv (w : World) (a : Option Addr) (lr cap : Nat) (U : Nat → ByteArray) (B : Nat → Bool) (hlrm : lr ≤ 65536) (hrv : Pairs w a lr (fun i => .string (U i)) (fun i => .bool (B i))) (hn : a = none → lr = 0 ∧ cap = 0) :
    Calls Try.prog 12 #[.slice a lr cap] w fun e w' => ∃ v, e = .returned v ∧ w'.ownsRow w.heap.size 35 2 v lr (flat (fun i => .string (U i)) (fun i => .bool (B i)) lr) ∧ Below w.heap.size w w' := by
  cases a with
  | some x => exact mkrv_some w x lr cap U B hlrm hrv
  | none =>
    obtain ⟨rfl, rfl⟩ := hn rfl
    have heq := Lib.run_eql_slice_nil w 23 34 none 0 0 0 0 Try.underlying23
    go_enter Try.func12, Try.ntmps12
    go_wp2
    go_ret
    exact ⟨_, rfl, World.ownsRow_nil _ _ _ _, Below.refl _ _⟩

/-- an owned row of pairs, as the next callee reads it -/
theorem pairs_of_own {w : World} {base : Nat} {e : TypeId} {v : Value} {n : Nat} {V0 V1 : Nat → Value} (h : w.ownsRow base e 2 v n (flat V0 V1 n)) : ∃ a cap, v = .slice a n cap ∧ Pairs w a n V0 V1 := by
  have hl := h.lt
  rcases h.2 with ⟨rfl, rfl⟩ | ⟨g, cap, cur, rfl, hg, hblk, hnc, hcm, hcs, htk⟩
  · exact ⟨none, 0, rfl, .inl rfl⟩
  · refine ⟨_, cap, rfl, .inr ⟨g, 0, rfl, (hl g rfl).2, fun i hi => ?_⟩⟩
    have hc := h.cells (g := g) rfl
    have hf := flat_get V0 V1 n i hi
    have h0 := hc _ _ hf.1
    have h1 := hc _ _ hf.2
    simp only [Addr.add, Nat.zero_add] at h0 h1
    refine ⟨?_, ?_⟩
    · by_cases e0 : i = 0
      · subst e0; simpa using h0
      · rw [if_neg (by omega)] at h0; simpa using h0
    · simpa [Nat.add_assoc] using h1

theorem grown_of_below {w w' : World} (h : Below w.heap.size w w') : w.grownBy w' none := ⟨h.os, h.tape, h.output, h.size, fun k hk _ => h.block k hk⟩
theorem own_below {w w' : World} {base : Nat} {e : TypeId} {size : Nat} {v : Value} {n : Nat} {xs : List Value} (h : w.ownsRow base e size v n xs) (hb : Below w.heap.size w w') : w'.ownsRow base e size v n xs := by
  refine h.kept (grown_of_below hb) ?_
  cases hv : v.ownBlock with
  | none => exact .inl rfl
  | some k => exact .inr (by simp)
end Go.Proofs.Qxb6600194a.Req
