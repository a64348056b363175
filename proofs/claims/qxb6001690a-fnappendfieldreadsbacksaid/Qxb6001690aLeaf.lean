import Derived.Test.Qxb6001690aProg
import Derived.Test.Qxb6001690aPlain
import Derived.WalkKit
import Derived.WalkSpells
namespace Go.Proofs.Qxb6001690a
open Go.RowKit

theorem ret_bool {a b : Bool} (h : a = b) : Ending.returned (.bool a) = .returned (.bool b) := by rw [h]
theorem ret_int {k : IntKind} {a b : Int} (h : a = b) : Ending.returned (.int k a) = .returned (.int k b) := by rw [h]
theorem ret_string {a b : ByteArray} (h : a = b) : Ending.returned (.string a) = .returned (.string b) := by rw [h]

theorem bl_length (s : ByteArray) : (bl s).length = s.size := by unfold bl; rw [Array.length_toList]; rfl
theorem bl_get (s : ByteArray) (k : Nat) (h : k < s.size) : (bl s)[k]? = some s[k] := by
  unfold bl
  rw [Array.getElem?_toList]
  exact Array.getElem?_eq_getElem h
theorem bl_drop (s : ByteArray) (k : Nat) (h : k < s.size) : (bl s).drop k = s[k] :: (bl s).drop (k + 1) := by
  have h' : k < (bl s).length := by rw [bl_length]; exact h
  rw [List.drop_eq_getElem_cons h']
  congr 1
theorem bl_drop_end (s : ByteArray) (k : Nat) (h : s.size ≤ k) : (bl s).drop k = [] := List.drop_eq_nil_of_le (by rw [bl_length]; exact h)

theorem hasB_cons (b : UInt8) (t : List UInt8) (c : Int) : hasB (b :: t) c = (((b.toNat : Int) == c) || hasB t c) := by simp [hasB]

set_option maxHeartbeats 400000 in
theorem hasByte_any (s : ByteArray) (c : Int) (w : World) (hs : s.size ≤ maxLen) :
    Calls Try.prog 25 #[.string s, .int .u8 c] w fun e w' => e = .returned (.bool (hasB (bl s) c)) ∧ w' = w := by
  unfold maxLen at hs
  go_enter Try.func25, Try.ntmps25
  go_wp2
  go_loop [5] (fun i => ∃ k : Nat, k ≤ s.size ∧ i = .int .i64 k ∧ Hid (hasB (bl s) c = hasB ((bl s).drop k) c)) (fun i => s.size - (intOf i).toNat)
  case atStart => exact ⟨0, Nat.zero_le _, rfl, rfl⟩
  case round =>
    obtain ⟨k, hk, rfl, hh⟩ := hrel
    by_cases hlt : k < s.size
    · have hd : Hid (hasB ((bl s).drop k) c = (((s[k].toNat : Int) == c) || hasB ((bl s).drop (k + 1)) c)) := by
        rw [bl_drop s k hlt, hasB_cons]; rfl
      go_wp2
      · have ht : ((s[k].toNat : Int) == c) = true := by assumption
        go_ret
        exact ⟨ret_bool (by rw [hh.out, hd.out, ht]; rfl), rfl⟩
      · have ht : ((s[k].toNat : Int) == c) = false := by assumption
        go_round
        case rel => exact ⟨k + 1, by omega, by go_num, by rw [hh.out, hd.out, ht]; rfl⟩
        case measure => simp [intOf]; omega
    · have hd : Hid ((bl s).drop k = []) := bl_drop_end s k (by omega)
      go_wp2
      go_ret
      exact ⟨ret_bool (by rw [hh.out, hd.out]; rfl), rfl⟩

theorem blank_iff (b : UInt8) : blank b = (((b.toNat : Int) == 32) || ((b.toNat : Int) == 9)) := by
  unfold blank
  rw [Bool.eq_iff_iff]
  simp [← UInt8.toNat_inj]
  omega
theorem blank_t1 (b : UInt8) (h : (b.toNat : Int) = 32) : blank b = true := by rw [blank_iff]; simp [h]
theorem blank_t2 (b : UInt8) (h : ((b.toNat : Int) == 32) = true ∨ ((b.toNat : Int) == 9) = true) : blank b = true := by rw [blank_iff]; simpa using h
theorem blank_f (b : UInt8) (h : ((b.toNat : Int) == 32) = false ∧ ((b.toNat : Int) == 9) = false) : blank b = false := by rw [blank_iff, h.1, h.2]; rfl
theorem blankN_yes (s : ByteArray) (k : Nat) (hlt : k < s.size) (h : blank s[k] = true) : blankN ((bl s).drop k) = blankN ((bl s).drop (k + 1)) + 1 := by
  rw [bl_drop s k hlt, blankN, if_pos h]
theorem blankN_no (s : ByteArray) (k : Nat) (hlt : k < s.size) (h : blank s[k] = false) : blankN ((bl s).drop k) = 0 := by
  rw [bl_drop s k hlt, blankN, if_neg (by rw [h]; exact Bool.false_ne_true)]

set_option maxHeartbeats 400000 in
theorem blankStart_any (s : ByteArray) (w : World) (hs : s.size ≤ maxLen) :
    Calls Try.prog 99 #[.string s] w fun e w' => e = .returned (.int .i64 (blankN (bl s))) ∧ w' = w := by
  unfold maxLen at hs
  go_enter Try.func99, Try.ntmps99
  go_wp2
  go_loop [3] (fun i => ∃ k : Nat, k ≤ s.size ∧ i = .int .i64 k ∧ Hid (blankN (bl s) = k + blankN ((bl s).drop k))) (fun i => s.size - (intOf i).toNat)
  case atStart => exact ⟨0, Nat.zero_le _, rfl, by show _ = _; simp⟩
  case round =>
    obtain ⟨k, hk, rfl, hh⟩ := hrel
    by_cases hlt : k < s.size
    · have hy : Hid (blank s[k] = true → blankN ((bl s).drop k) = blankN ((bl s).drop (k + 1)) + 1) := blankN_yes s k hlt
      have hn : Hid (blank s[k] = false → blankN ((bl s).drop k) = 0) := blankN_no s k hlt
      go_wp2
      · go_round
        case rel => exact ⟨k + 1, by omega, by go_num, by have := hy.out (blank_t1 _ (by assumption)); have := hh.out; show _ = _; omega⟩
        case measure => simp [intOf]; omega
      · go_round
        case rel => exact ⟨k + 1, by omega, by go_num, by have := hy.out (blank_t2 _ (by assumption)); have := hh.out; show _ = _; omega⟩
        case measure => simp [intOf]; omega
      · go_ret
        exact ⟨ret_int (by have := hn.out (blank_f _ (by assumption)); have := hh.out; omega), rfl⟩
    · have hd : Hid ((bl s).drop k = []) := bl_drop_end s k (by omega)
      go_wp2
      go_ret
      exact ⟨ret_int (by rw [hh.out, hd.out]; simp [blankN]), rfl⟩

theorem bl_extract (s : ByteArray) (a b : Nat) : bl (s.extract a b) = ((bl s).drop a).take (b - a) := by
  unfold bl
  obtain ⟨⟨l⟩⟩ := s
  rw [ByteArray.extract_mk]
theorem bl_inj {s t : ByteArray} (h : bl s = bl t) : s = t := by
  obtain ⟨⟨l⟩⟩ := s
  obtain ⟨⟨m⟩⟩ := t
  simp only [bl] at h
  rw [h]
theorem bl_tail (s : ByteArray) (k : Nat) : bl (s.extract k s.size) = (bl s).drop k := by
  rw [bl_extract]
  exact List.take_of_length_le (by rw [List.length_drop, bl_length]; omega)

set_option maxHeartbeats 400000 in
theorem trimLeft_any (s : ByteArray) (w : World) (hs : s.size ≤ maxLen) :
    Calls Try.prog 82 #[.string s] w fun e w' => ∃ r : ByteArray, e = .returned (.string r) ∧ bl r = trimL (bl s) ∧ w' = w := by
  unfold maxLen at hs
  go_enter Try.func82, Try.ntmps82
  go_wp2
  go_loop [3] (fun i => ∃ k : Nat, k ≤ s.size ∧ i = .int .i64 k ∧ Hid (blankN (bl s) = k + blankN ((bl s).drop k))) (fun i => s.size - (intOf i).toNat)
  case atStart => exact ⟨0, Nat.zero_le _, rfl, by show _ = _; simp⟩
  case round =>
    obtain ⟨k, hk, rfl, hh⟩ := hrel
    by_cases hlt : k < s.size
    · have hy : Hid (blank s[k] = true → blankN ((bl s).drop k) = blankN ((bl s).drop (k + 1)) + 1) := blankN_yes s k hlt
      have hn : Hid (blank s[k] = false → blankN ((bl s).drop k) = 0) := blankN_no s k hlt
      go_wp2
      · go_round
        case rel => exact ⟨k + 1, by omega, by go_num, by have := hy.out (blank_t1 _ (by assumption)); have := hh.out; show _ = _; omega⟩
        case measure => simp [intOf]; omega
      · go_round
        case rel => exact ⟨k + 1, by omega, by go_num, by have := hy.out (blank_t2 _ (by assumption)); have := hh.out; show _ = _; omega⟩
        case measure => simp [intOf]; omega
      · go_ret
        refine ⟨_, rfl, ?_, rfl⟩
        have h1 := hn.out (blank_f _ (by assumption))
        have h2 : blankN (bl s) = k := by have := hh.out; omega
        rw [bl_tail, trimL, h2]
    · have hd : Hid ((bl s).drop k = []) := bl_drop_end s k (by omega)
      go_wp2
      go_ret
      refine ⟨_, rfl, ?_, rfl⟩
      have h2 : blankN (bl s) = k := by rw [hh.out, hd.out]; simp [blankN]
      first | (rw [bl_tail, trimL, h2]) | (rw [trimL, h2, hd.out]; rfl)
end Go.Proofs.Qxb6001690a
