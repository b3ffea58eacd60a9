import Derived.Test.Qxb6600194aRows
import Derived.WalkKit
import Derived.WalkSpells
import Derived.WalkLawsBesides
import Derived.BigQuiet
import Derived.Deep.QuietTactic
import Derived.Deep.OwnRows
import Derived.Maps.OwnSet
import Derived.RowKit3
import Derived.Test.Qxb6600194aPlain
namespace Go.Proofs.Qxb6600194a.Req
open Go.RowKit Go.Maps

set_option maxHeartbeats 400000 in
theorem eff (a d : Int) (w : World) :
    Calls Try.prog 20 #[.agg #[.int .i64 a, .int .i64 d]] w fun e w' => e = .returned (.agg #[.int .i64 (at1 a), .int .i64 (at1 d)]) ∧ Below w.heap.size w w' := by
  go_enter Try.func20, Try.ntmps20
  go_wp2
  · refine bodyPost_ret (v := .agg #[.int .i64 1, .int .i64 1]) (by simp [results, Try.results20, go_sem]) rfl ⟨by rw [at1_lt (by assumption), at1_lt (by assumption)], ((Below.refl _ _).alloc (Nat.le_refl _) _).alloc (by simp) _⟩
  · refine bodyPost_ret (v := .agg #[.int .i64 1, .int .i64 d]) (by simp [results, Try.results20, go_sem]) rfl ⟨by rw [at1_lt (by assumption), at1_ge (by assumption)], ((Below.refl _ _).alloc (Nat.le_refl _) _).alloc (by simp) _⟩
  · refine bodyPost_ret (v := .agg #[.int .i64 a, .int .i64 1]) (by simp [results, Try.results20, go_sem]) rfl ⟨by rw [at1_ge (by assumption), at1_lt (by assumption)], ((Below.refl _ _).alloc (Nat.le_refl _) _).alloc (by simp) _⟩
  · refine bodyPost_ret (v := .agg #[.int .i64 a, .int .i64 d]) (by simp [results, Try.results20, go_sem]) rfl ⟨by rw [at1_ge (by assumption), at1_ge (by assumption)], ((Below.refl _ _).alloc (Nat.le_refl _) _).alloc (by simp) _⟩

/-! ### the map of authors: a look-up in a map of bools that the call makes -/
theorem plainElem_bool_inv {H : Type} {P : Program} {e : TypeId} (he : P.underlying e = some .bool) {v : Value} {z : DataW H × List MemPlace} (h : plainElem P e v = some z) : ∃ x, v = .bool x ∧ z = (.lit (.bool x), []) := by
  unfold plainElem at h
  rw [he] at h
  cases v <;> simp at h
  exact ⟨_, rfl, h.symm⟩

theorem wpList_lookup_own_bool {H : Type} {P : Program} (w : World) {ops : Array Oper} {rest : List Oper} {o : Oper} {a : Act} {Q : Exit → Act → World → Prop}
    (hg : o.guard = none) (m x : Operand) (t : TypeId) (hop : o.op = Op.lookup t m x false)
    (k e : TypeId) (K : Keyed P k) (ht : P.underlying t = some (.map k e)) (he : P.underlying e = some .bool) (hz : (zeroValue e).run P w = .ok (.bool false) w) (b n : Nat) (D : DataW H)
    (hm : a.eval m = .map (some b)) (hown : w.ownsMap P k (plainElem P e) b n D) (key : Value) (kl : Lit) (hx : a.eval x = key) (hkey : keyOf P k key = some kl)
    (c : Bool) (hat : D.atKey kl (.lit (.bool false)) = .lit (.bool c))
    (hK : wpList P ops Q rest (a.put o.dst (.bool c)) w) :
    wpList P ops Q (o :: rest) a w := by
  refine wpList_plain hg fun K' hK' => ?_
  obtain ⟨v, ps, hrun, hv⟩ := hown.lookup K ht hz (plainElem_bool he false) hkey
  obtain ⟨c', rfl, hc⟩ := plainElem_bool_inv he hv
  simp only [Prod.mk.injEq] at hc
  have hcc : c' = c := by
    have := hc.1.symm.trans hat
    simpa using this
  subst hcc
  unfold Oper.wp
  simp [execOp, hop, hm, hx, hrun, Result.andThen]
  exact hK' _ _ hK

/-- the map holds 'true' at just the authors of the first k reviews -/
def SeenMap (D : DataW Unit) (U : Nat → ByteArray) (k : Nat) : Prop :=
  IsMap D ∧ ∀ s : ByteArray, D.atKey (.string s.data.toList) (.lit (.bool false)) = .lit (.bool (seenBy U k s))

theorem seenMap_zero (U : Nat → ByteArray) : SeenMap (.map []) U 0 := ⟨isMap_empty, fun _ => rfl⟩

theorem seenMap_skip {D : DataW Unit} {U : Nat → ByteArray} {k : Nat} (h : SeenMap D U k) (hs : seenBy U k (U k) = true) : SeenMap D U (k + 1) := by
  refine ⟨h.1, fun s => ?_⟩
  rw [h.2 s, seenBy_succ]
  by_cases e : U k = s
  · subst e; rw [hs]; rfl
  · simp [e]

theorem seenMap_put {D : DataW Unit} {U : Nat → ByteArray} {k : Nat} (h : SeenMap D U k) : SeenMap (D.put (.string (U k).data.toList) (.lit (.bool true))) U (k + 1) := by
  refine ⟨h.1.put _ _, fun s => ?_⟩
  rw [seenBy_succ]
  by_cases e : U k = s
  · subst e; rw [atKey_put_same h.1 (by trivial)]; simp
  · rw [atKey_put_other _, h.2 s]
    · simp [e]
    · intro he
      apply e
      injection he with he
      exact (ByteArray.ext (Array.toList_inj.1 he)).symm

/-- a slice of structs of two one-cell fields, as it lies: no element, or each element's two cells -/
def Pairs (w : World) (a : Option Addr) (len : Nat) (V0 V1 : Nat → Value) : Prop :=
  len = 0 ∨ ∃ b off, a = some ⟨b, off, none⟩ ∧ b < w.heap.size ∧ ∀ i, i < len → w.cell? ⟨b, off + i * 2, none⟩ = some (V0 i) ∧ w.cell? ⟨b, off + i * 2 + 1, none⟩ = some (V1 i)

theorem Pairs.below {w w' : World} {a : Option Addr} {len : Nat} {V0 V1 : Nat → Value} (h : Pairs w a len V0 V1) (hb : Below w.heap.size w w') : Pairs w' a len V0 V1 := by
  rcases h with h | ⟨b, off, ha, hlt, hc⟩
  · exact .inl h
  · refine .inr ⟨b, off, ha, Nat.lt_of_lt_of_le hlt hb.size, fun i hi => ?_⟩
    rw [hb.cell (p := ⟨b, off + i * 2, none⟩) hlt, hb.cell (p := ⟨b, off + i * 2 + 1, none⟩) hlt]
    exact hc i hi
end Go.Proofs.Qxb6600194a.Req
