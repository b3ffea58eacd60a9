import Derived.Test.Qxb6600194aReq
import Derived.ProofKit
import Derived.Deep.SlicePairs
namespace Go.Proofs.Qxb6600194a.Req
open Go.RowKit Go.ChangeShapes Go.WideShapes Go.ChangeAt

def strOf : Value → ByteArray | .string s => s | _ => ByteArray.empty
def boolOf : Value → Bool | .bool b => b | _ => false

/-- from the row's own reading of a slice of pairs to 'Pairs' -/
theorem pairs_of_cells {W : World} {x : Addr} {len m : Nat} {V0 V1 : Nat → Value} (hm : len ≤ m)
    (h : ∀ i, i < m → W.cell? (x.add (i * 2)) = some (V0 i) ∧ W.cell? (x.add (i * 2 + 1)) = some (V1 i)) : Pairs W (some x) len V0 V1 := by
  rcases Nat.eq_zero_or_pos len with h0 | h0
  · exact .inl h0
  · obtain ⟨b, off, spot⟩ := x
    have hc := (h 0 (by omega)).1
    have hspot : spot = none := by simpa [Addr.add] using World.cell?_spot hc
    subst hspot
    have hb : b < W.heap.size := by
      have hc' : W.cell? ⟨b, off, none⟩ = some (V0 0) := by simpa [Addr.add] using hc
      rcases Nat.lt_or_ge b W.heap.size with hlt | hge
      · exact hlt
      · simp [World.cell?, Array.getElem?_eq_none hge] at hc'
    refine .inr ⟨b, off, rfl, hb, fun i hi => ?_⟩
    have hi' := h i (by omega)
    refine ⟨?_, ?_⟩
    · by_cases e0 : i * 2 = 0
      · have := hi'.1
        simp only [Addr.add, e0, if_true] at this
        rw [e0]; simpa using this
      · have := hi'.1
        rw [Addr.add, if_neg e0] at this
        exact this
    · have := hi'.2
      rw [Addr.add, if_neg (by omega)] at this
      simpa [Nat.add_assoc] using this

theorem cells48 : Try.prog.cellsOf 48 = 2 := by kernel_rfl
theorem cells34 : Try.prog.cellsOf 34 = 2 := by kernel_rfl
theorem cells2 : Try.prog.cellsOf 2 = 1 := by kernel_rfl
theorem cells9 : Try.prog.cellsOf 9 = 1 := by kernel_rfl
theorem cells4 : Try.prog.cellsOf 4 = 1 := by kernel_rfl

theorem pairs_congr {w : World} {a : Option Addr} {len : Nat} {V0 V1 V0' V1' : Nat → Value} (h : Pairs w a len V0 V1) (e : ∀ i, i < len → V0 i = V0' i ∧ V1 i = V1' i) : Pairs w a len V0' V1' := by
  rcases h with h | ⟨b, off, ha, hb, hc⟩
  · exact .inl h
  · exact .inr ⟨b, off, ha, hb, fun i hi => by rw [← (e i hi).1, ← (e i hi).2]; exact hc i hi⟩

/-- thresholds, opened -/
theorem open_th {H : Type} {enc : TypeId × Value → H} {W : World} {held : Bool} {a : Option Addr} {len cap : Nat} {d : DataW H} {ps : List MemPlace} (h : DataW.Trod enc Try.prog W 0 (fun _ => true) held 22 (.slice a len cap) d ps) :
    ∃ A D : Nat → Int, Pairs W a len (fun i => .int .i64 (A i)) (fun i => .int .i64 (D i)) ∧ (a = none → len = 0 ∧ cap = 0) ∧ len ≤ maxLen := by
  obtain ⟨fuel, hf⟩ := h
  rcases Go.Deep.open_slice_pairs Try.underlying22 Try.underlying48 cells48 rfl rfl cells2 cells2 hf with ⟨hcs, _⟩ | ⟨x, l, c, m, n, V0, V1, D0, D1, P0, P1, hcs, _, hl, hm, hmm, _, hall⟩
  · simp [Value.cells] at hcs
    obtain ⟨rfl, rfl, rfl⟩ := hcs
    exact ⟨fun _ => 0, fun _ => 0, .inl rfl, fun _ => ⟨rfl, rfl⟩, Nat.zero_le _⟩
  · simp [Value.cells] at hcs
    obtain ⟨rfl, rfl, rfl⟩ := hcs
    have hmc : m = cap := by simpa using hmm
    refine ⟨fun i => intOf (V0 i), fun i => intOf (V1 i), ?_, (fun h => by cases h), Nat.le_trans hl hm⟩
    refine pairs_congr (pairs_of_cells (by omega) (fun i hi => ⟨(hall i hi).1, (hall i hi).2.1⟩)) (fun i hi => ?_)
    obtain ⟨q0, e0, _, _⟩ := DataW.trod_int Try.underlying2 (hall i (by omega)).2.2.1
    obtain ⟨q1, e1, _, _⟩ := DataW.trod_int Try.underlying2 (hall i (by omega)).2.2.2
    simp at e0 e1
    exact ⟨by show V0 i = .int .i64 (intOf (V0 i)); rw [e0]; rfl, by show V1 i = .int .i64 (intOf (V1 i)); rw [e1]; rfl⟩

/-- reviews, opened -/
theorem open_rv {H : Type} {enc : TypeId × Value → H} {W : World} {held : Bool} {a : Option Addr} {len cap : Nat} {d : DataW H} {ps : List MemPlace} (h : DataW.Trod enc Try.prog W 0 (fun _ => true) held 23 (.slice a len cap) d ps) :
    ∃ (U : Nat → ByteArray) (B : Nat → Bool), Pairs W a len (fun i => .string (U i)) (fun i => .bool (B i)) ∧ (a = none → len = 0 ∧ cap = 0) ∧ len ≤ maxLen ∧ ∀ i, i < len → (U i).size ≤ maxLen := by
  obtain ⟨fuel, hf⟩ := h
  rcases Go.Deep.open_slice_pairs Try.underlying23 Try.underlying34 cells34 rfl rfl cells9 cells4 hf with ⟨hcs, _⟩ | ⟨x, l, c, m, n, V0, V1, D0, D1, P0, P1, hcs, _, hl, hm, hmm, _, hall⟩
  · simp [Value.cells] at hcs
    obtain ⟨rfl, rfl, rfl⟩ := hcs
    exact ⟨fun _ => ByteArray.empty, fun _ => false, .inl rfl, fun _ => ⟨rfl, rfl⟩, Nat.zero_le _, by omega⟩
  · simp [Value.cells] at hcs
    obtain ⟨rfl, rfl, rfl⟩ := hcs
    have hmc : m = cap := by simpa using hmm
    have key : ∀ i, i < len → V0 i = .string (strOf (V0 i)) ∧ V1 i = .bool (boolOf (V1 i)) ∧ (strOf (V0 i)).size ≤ maxLen := by
      intro i hi
      obtain ⟨q0, e0, _, hq⟩ := DataW.trod_string Try.underlying9 (hall i (by omega)).2.2.1
      obtain ⟨q1, e1, _⟩ := DataW.trod_bool Try.underlying4 (hall i (by omega)).2.2.2
      simp at e0 e1
      rw [e0, e1]
      exact ⟨rfl, rfl, hq⟩
    exact ⟨fun i => strOf (V0 i), fun i => boolOf (V1 i), pairs_congr (pairs_of_cells (by omega) (fun i hi => ⟨(hall i hi).1, (hall i hi).2.1⟩)) (fun i hi => ⟨(key i hi).1, (key i hi).2.1⟩), (fun h => by cases h), Nat.le_trans hl hm, fun i hi => (key i hi).2.2⟩
end Go.Proofs.Qxb6600194a.Req
