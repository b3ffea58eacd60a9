import Derived.Test.Qxb6600194aDec
namespace Go.Proofs.Qxb6600194a.Dec
open Go.RowKit

def pre (s p : ByteArray) : Bool := p.toList.isPrefixOf s.toList

theorem ret_bool {a b : Bool} (h : a = b) : Ending.returned (.bool a) = .returned (.bool b) := by rw [h]

theorem pre_short (s p : ByteArray) (h : s.size < p.size) : pre s p = false := by
  rw [pre, Bool.eq_false_iff]
  intro hp
  have := (List.isPrefixOf_iff_prefix.1 hp).length_le
  rw [ByteArray.toList_eq, ByteArray.toList_eq] at this
  simp at this
  omega

theorem pre_all (s p : ByteArray) (hle : p.size ≤ s.size) (h : ∀ j (hj : j < p.size), (s[j]'(by omega)).toNat = (p[j]).toNat) : pre s p = true := by
  rw [pre, List.isPrefixOf_iff_prefix, List.prefix_iff_eq_take, ByteArray.toList_eq, ByteArray.toList_eq]
  apply List.ext_getElem
  · simp; omega
  · intro i h1 h2
    have := h i (by simpa using h1)
    simp
    exact (UInt8.toNat_inj.1 this).symm

theorem pre_no (s p : ByteArray) (k : Nat) (h1 : k < s.size) (h2 : k < p.size) (h : s[k].toNat ≠ p[k].toNat) : pre s p = false := by
  rw [pre, Bool.eq_false_iff]
  intro hp
  rw [List.isPrefixOf_iff_prefix, List.prefix_iff_eq_take, ByteArray.toList_eq, ByteArray.toList_eq] at hp
  have := congrArg (fun l => l[k]?) hp
  simp [h2, h1] at this
  apply h
  exact congrArg UInt8.toNat this.symm

set_option maxHeartbeats 1000000 in
theorem hasPrefix (s p : ByteArray) (w : World) (hs : s.size ≤ 2000000) (hp : p.size ≤ 2000000) :
    Calls Try.prog 22 #[.string s, .string p] w fun e w' => e = .returned (.bool (pre s p)) ∧ ∃ n, w' = w.drewN n := by
  by_cases hlt : s.size < p.size
  · go_enter Try.func22, Try.ntmps22
    go_wp2
    go_ret
    exact ⟨ret_bool (pre_short s p hlt).symm, 0, rfl⟩
  · go_enter Try.func22, Try.ntmps22
    go_wp2
    go_loopw [5] (fun i wr => ∃ k : Nat, k ≤ p.size ∧ i = .int .i64 k ∧ (∀ j (hj : j < k) (h1 : j < s.size) (h2 : j < p.size), s[j].toNat = p[j].toNat) ∧ ∃ n, wr = w.drewN n) (fun i _ => p.size - (intOf i).toNat)
    case atStart => exact ⟨0, by omega, rfl, by omega, 0, rfl⟩
    case round =>
      obtain ⟨k, hk, rfl, hall, n, rfl⟩ := hrel
      by_cases hkp : k < p.size
      · have H : Hid (∀ j (hj : j < k) (h1 : j < s.size) (h2 : j < p.size), s[j].toNat = p[j].toNat) := hall
        clear hall
        have h1 : k < s.size := by omega
        go_wp2
        go_quiet (fail)
        go_wp2
        · go_ret
          exact ⟨ret_bool (pre_no s p k h1 hkp (by have h : ((s[k].toNat : Int) != (p[k].toNat : Int)) = true := by assumption
                                                   rw [bne_iff_ne] at h; omega)).symm, n + nq, World.drewN_drewN _ _ _⟩
        · go_roundw
          case rel => exact ⟨k + 1, by omega, by go_num, fun j hj h1 h2 => by
            by_cases hjk : j = k
            · subst hjk
              have h : ((s[j].toNat : Int) != (p[j].toNat : Int)) = false := by assumption
              rw [bne_eq_false_iff_eq] at h; omega
            · exact H.out j (by omega) h1 h2, _, rfl⟩
          case measure => simp [intOf]; omega
      · go_wp2
        go_ret
        exact ⟨ret_bool (pre_all s p (by omega) (fun j hj => hall j (by omega) (by omega) hj)).symm, n, rfl⟩

set_option maxHeartbeats 1000000 in
theorem parse_a (s : ByteArray) (w : World) (hs : s.size ≤ 2000000) (hz : 16 ≤ s.size) (h : pre s pa = true) :
    Calls Try.prog 17 #[.string s] w fun e w' => e = .returned (.tuple #[.bool true, .string (s.extract 16 s.size), .bool true]) ∧ ∃ n, w' = w.drewN n := by
  unfold pa at h
  go_enter Try.func17, Try.ntmps17
  go_wp2_with (go_at_call 22; refine (hasPrefix _ _ _ hs (by decide)).mono ?_; rintro e w' ⟨rfl, n, rfl⟩)
  go_quiet (fail)
  go_wp2
  go_ret3
  exact ⟨rfl, _, World.drewN_drewN _ _ _⟩

set_option maxHeartbeats 1000000 in
theorem parse_d (s : ByteArray) (w : World) (hs : s.size ≤ 2000000) (hz : 15 < s.size) (h1 : pre s pa = false) (h : pre s pd = true) :
    Calls Try.prog 17 #[.string s] w fun e w' => e = .returned (.tuple #[.bool false, .string (s.extract 15 s.size), .bool true]) ∧ ∃ n, w' = w.drewN n := by
  unfold pa at h1
  unfold pd at h
  go_enter Try.func17, Try.ntmps17
  go_wp2_with (go_at_call 22; refine (hasPrefix _ _ _ hs (by decide)).mono ?_; rintro e w' ⟨rfl, n, rfl⟩)
  go_quiet (fail)
  go_wp2
  go_ret3
  exact ⟨rfl, _, World.drewN_drewN _ _ _⟩

set_option maxHeartbeats 1000000 in
theorem parse_n (s : ByteArray) (w : World) (hs : s.size ≤ 2000000) (h1 : pre s pa = false) (h2 : pre s pd = false) (h : (s.toList == pn.toList) = true) :
    Calls Try.prog 17 #[.string s] w fun e w' => e = .returned (.tuple #[.bool false, .string ByteArray.empty, .bool true]) ∧ ∃ n, w' = w.drewN n := by
  unfold pa at h1
  unfold pd at h2
  rw [pn_l] at h
  go_enter Try.func17, Try.ntmps17
  go_wp2_with (go_at_call 22; refine (hasPrefix _ _ _ hs (by decide)).mono ?_; rintro e w' ⟨rfl, n, rfl⟩)
  go_ret3
  exact ⟨rfl, _, rfl⟩

theorem ext_app (a r : ByteArray) (n : Nat) (h : a.size = n) : (a ++ r).extract n (a ++ r).size = r := by
  subst h
  apply ByteArray.ext
  apply Array.toList_inj.1
  simp
  rw [List.drop_of_length_le (by simp)]; simp
  exact List.take_of_length_le (by simp)
theorem pre_app (a r : ByteArray) : pre (a ++ r) a = true := by
  rw [pre, toList_app, List.isPrefixOf_iff_prefix]; exact List.prefix_append _ _
theorem pre_pd_pa (r : ByteArray) : pre (pd ++ r) pa = false := by
  rw [pre, toList_app, pd_l, pa_l]; rfl
theorem pre_pn_pa : pre pn pa = false := by rw [pre, pn_l, pa_l]; decide
theorem pre_pn_pd : pre pn pd = false := by rw [pre, pn_l, pd_l]; decide

/-- what is read back of what was printed -/
theorem parse_txt (al : Bool) (r : ByteArray) (w : World) (hr : r.size ≤ 1048576) :
    Calls Try.prog 17 #[.string (txt al r)] w fun e w' => e = .returned (.tuple #[.bool al, .string r, .bool true]) ∧ ∃ n, w' = w.drewN n := by
  cases al
  · by_cases he : r.toList.isEmpty = true
    · have ht : txt false r = pn := by simp [txt, he]
      rw [ht]
      have hr0 : r = ByteArray.empty := by
        rw [List.isEmpty_iff, ByteArray.toList_eq] at he
        apply ByteArray.ext; apply Array.toList_inj.1; rw [he]; rfl
      subst hr0
      exact parse_n pn w (by decide) pre_pn_pa pre_pn_pd (by simp)
    · have ht : txt false r = pd ++ r := by simp [txt, he]
      rw [ht]
      have hz : 0 < r.size := by
        rw [List.isEmpty_iff, ByteArray.toList_eq] at he
        rcases Nat.eq_zero_or_pos r.size with h | h
        · exact absurd (Array.toList_eq_nil_iff.2 (Array.size_eq_zero_iff.1 h)) he
        · exact h
      have hp : pd.size = 15 := rfl
      have hsz : (pd ++ r).size = 15 + r.size := by rw [ByteArray.size_append, hp]
      have := parse_d (pd ++ r) w (by omega) (by omega) (pre_pd_pa r) (pre_app _ _)
      rw [ext_app pd r 15 hp] at this
      exact this
  · have ht : txt true r = pa ++ r := by simp [txt]
    rw [ht]
    have hp : pa.size = 16 := rfl
    have hsz : (pa ++ r).size = 16 + r.size := by rw [ByteArray.size_append, hp]
    have := parse_a (pa ++ r) w (by omega) (by omega) (pre_app _ _)
    rw [ext_app pa r 16 hp] at this
    exact this
end Go.Proofs.Qxb6600194a.Dec
