import Derived.Test.Qxb6003327aLeaf
import Derived.RowKit3
namespace Go.Proofs.Qxb6003327a
open Go.RowKit
set_option linter.unusedVariables false

theorem asT_empty {s : ByteArray} (h : ¬ 0 < s.size) : asT s = s := by rw [asT, dif_neg h]
theorem asT_plain {s : ByteArray} (h : 0 < s.size) (hq : quoted s[0] = false) : asT s = s := by rw [asT, dif_pos h, if_neg (by rw [hq]; exact Bool.false_ne_true)]
theorem asT_quote {s : ByteArray} (h : 0 < s.size) (hq : quoted s[0] = true) : asT s = ⟨#[39]⟩ ++ s := by rw [asT, dif_pos h, if_pos hq]
theorem plain_formula {b : UInt8} (h : quoted b = false) : formula (b.toNat : Int) = false ∧ ((b.toNat : Int) == 39) = false := by
  unfold quoted eqb at h
  unfold formula
  simp only [Bool.or_eq_false_iff] at h
  simp [h]
theorem q_size (s : ByteArray) : (⟨#[39]⟩ ++ s : ByteArray).size = s.size + 1 := by
  rw [← bl_length, bl_app, List.length_append, bl_length s]
  show 1 + s.size = s.size + 1
  omega
theorem q_first (r s : ByteArray) (hr : r = ⟨#[39]⟩ ++ s) (h : 0 < r.size) : (r[0].toNat : Int) = 39 := by
  have e := bl_get r 0 h
  have : bl r = 39 :: bl s := by rw [hr, bl_app]; rfl
  rw [this] at e
  simp at e
  rw [← e]
  rfl
theorem q_rest (r s : ByteArray) (hr : r = ⟨#[39]⟩ ++ s) : ((r.extract 1 r.size).toList == s.toList) = true := bl_inj' (by
  rw [bl_tail]
  have : bl r = 39 :: bl s := by rw [hr, bl_app]; rfl
  rw [this]
  rfl)
theorem q_inj {s t : ByteArray} (h : (⟨#[39]⟩ ++ s : ByteArray) = ⟨#[39]⟩ ++ t) : s = t := by
  have := congrArg bl h
  rw [bl_app, bl_app] at this
  exact bl_inj (List.append_cancel_left this)
theorem q_plain {s t : ByteArray} (h : (⟨#[39]⟩ ++ s : ByteArray) = t) (ht : asT t = t) : False := by
  have h0 : 0 < t.size := by rw [← h, q_size]; omega
  have h1 := q_first t s h.symm h0
  have h2 : quoted t[0] = true := by
    unfold quoted eqb
    rw [h1]
    rfl
  rw [asT_quote h0 h2] at ht
  have := congrArg ByteArray.size ht
  rw [q_size] at this
  omega
theorem asT_or (s : ByteArray) : asT s = s ∨ asT s = ⟨#[39]⟩ ++ s := by
  by_cases h : 0 < s.size
  · cases hq : quoted s[0]
    · exact .inl (asT_plain h hq)
    · exact .inr (asT_quote h hq)
  · exact .inl (asT_empty h)
/-- no two texts print alike -/
theorem asT_inj {s t : ByteArray} (h : asT s = asT t) : s = t := by
  rcases asT_or s with hs | hs <;> rcases asT_or t with ht | ht
  · rw [hs, ht] at h; exact h
  · rw [ht] at h; exact (q_plain (h.symm.trans hs) hs).elim
  · rw [hs] at h; exact (q_plain (h.trans ht) ht).elim
  · rw [hs, ht] at h; exact q_inj h

set_option maxHeartbeats 400000 in
theorem one_any (s : ByteArray) (w : World) (hs : s.size ≤ 1048576) :
    Calls Try.prog 5 #[.string s] w fun e w' => e = .returned (.bool true) ∧ w' = w := by
  by_cases h0 : 0 < s.size
  · cases hq : quoted s[0]
    · have HR : Hid (asT s = s) := asT_plain h0 hq
      have hf := plain_formula hq
      have HF : Hid (formula (s[0].toNat : Int) = false) := hf.1
      have h39 := hf.2
      have hee : (s.toList == s.toList) = true := bl_inj' rfl
      clear hf hq
      go_enter Try.func5, Try.ntmps5
      go_wp2_with (first | (go_at_call 6; refine (zzText_any s _ hs).mono ?_; rintro e w' ⟨rfl, hw⟩; rw [hw, HR.out]; clear hw) | (go_at_call 7; refine (formula_any _ _).mono ?_; rintro e w' ⟨rfl, hw⟩; rw [hw, HF.out]; clear hw))
      go_ret
      exact ⟨rfl, rfl⟩
    · obtain ⟨r, hr⟩ : ∃ r, r = asT s := ⟨_, rfl⟩
      have HC : Hid (∀ w', Calls Try.prog 6 #[.string s] w' fun e w'' => e = .returned (.string r) ∧ w'' = w') := fun w' => by rw [hr]; exact zzText_any s w' hs
      rw [asT_quote h0 hq] at hr
      have hsz : r.size = s.size + 1 := by rw [hr, q_size]
      have h1 : 0 < r.size := by omega
      have h39 : ((r[0].toNat : Int) == 39) = true := by rw [q_first r s hr h1]; rfl
      have HF : Hid (formula (r[0].toNat : Int) = false) := by show _ = _; rw [q_first r s hr h1]; rfl
      have hrest : ((r.extract 1 (s.size + 1)).toList == s.toList) = true := by rw [← hsz]; exact q_rest r s hr
      clear hr hq
      go_enter Try.func5, Try.ntmps5
      go_wp2_with (first | (go_at_call 6; refine (HC.out _).mono ?_; rintro e w' ⟨rfl, hw⟩; rw [hw]; clear hw) | (go_at_call 7; refine (formula_any _ _).mono ?_; rintro e w' ⟨rfl, hw⟩; rw [hw, HF.out]; clear hw))
      go_ret
      exact ⟨rfl, rfl⟩
  · have HR : Hid (asT s = s) := asT_empty h0
    have hee : (s.toList == s.toList) = true := bl_inj' rfl
    go_enter Try.func5, Try.ntmps5
    go_wp2_with (first | (go_at_call 6; refine (zzText_any s _ hs).mono ?_; rintro e w' ⟨rfl, hw⟩; rw [hw, HR.out]; clear hw))
    go_ret
    exact ⟨rfl, rfl⟩

set_option maxHeartbeats 400000 in
theorem law_any (a b : ByteArray) (w : World) (ha : a.size ≤ maxLen) (hb : b.size ≤ maxLen) :
    Calls Try.prog 3 #[.string a, .string b] w fun e w' => e = .returned (.bool true) ∧ Grown w w' := by
  by_cases h : a.size + b.size ≤ 1048576
  · have HD : Hid (decide (a.size + b.size ≤ 1048576) = true) := decide_eq_true h
    cases he : ((asT a).toList == (asT b).toList)
    · go_enter Try.func3, Try.ntmps3
      go_wp2_with (first | (go_at_call 4; refine (bytes4 _ _ _ ha hb).mono ?_; rintro e w' ⟨rfl, hw⟩; rw [hw, HD.out]; clear hw) | (go_at_call 5; refine (one_any _ _ (by omega)).mono ?_; rintro e w' ⟨rfl, hw⟩; rw [hw]; clear hw) | (go_at_call 6; refine (zzText_any _ _ (by omega)).mono ?_; rintro e w' ⟨rfl, hw⟩; rw [hw]; clear hw))
      go_ret
      exact ⟨rfl, Grown.refl _⟩
    · have hab : (a.toList == b.toList) = true := by
        have e : bl (asT a) = bl (asT b) := by rw [tl, tl] at he; simpa using he
        rw [asT_inj (bl_inj e)]; exact bl_inj' rfl
      go_enter Try.func3, Try.ntmps3
      go_wp2_with (first | (go_at_call 4; refine (bytes4 _ _ _ ha hb).mono ?_; rintro e w' ⟨rfl, hw⟩; rw [hw, HD.out]; clear hw) | (go_at_call 5; refine (one_any _ _ (by omega)).mono ?_; rintro e w' ⟨rfl, hw⟩; rw [hw]; clear hw) | (go_at_call 6; refine (zzText_any _ _ (by omega)).mono ?_; rintro e w' ⟨rfl, hw⟩; rw [hw]; clear hw))
      go_ret
      exact ⟨rfl, Grown.refl _⟩
  · have HD : Hid (decide (a.size + b.size ≤ 1048576) = false) := decide_eq_false h
    go_enter Try.func3, Try.ntmps3
    go_wp2_with (go_at_call 4; refine (bytes4 _ _ _ ha hb).mono ?_; rintro e w' ⟨rfl, hw⟩; rw [hw, HD.out]; clear hw)
    go_ret
    exact ⟨rfl, Grown.refl _⟩
end Go.Proofs.Qxb6003327a
