import Derived.Test.Qxb6003327aProg
import Derived.WalkKit
import Derived.WalkSpells
import Derived.Lib.Walk
import Derived.Lib.Bytealg
import Derived.WalkLawsBesides
namespace Go.Proofs.Qxb6003327a
open Go.RowKit
set_option linter.unusedVariables false

theorem ret_bool {a b : Bool} (h : a = b) : Ending.returned (.bool a) = .returned (.bool b) := by rw [h]
theorem ret_string {a b : ByteArray} (h : a = b) : Ending.returned (.string a) = .returned (.string b) := by rw [h]
def bl (s : ByteArray) : List UInt8 := s.data.toList
theorem tl (s : ByteArray) : s.toList = bl s := ByteArray.toList_eq s
def eqb (b : UInt8) (n : Int) : Bool := (b.toNat : Int) == n
/-- the bytes ahead of which a quote is put -/
def quoted (b : UInt8) : Bool := eqb b 61 || eqb b 43 || eqb b 45 || eqb b 64 || eqb b 9 || eqb b 13 || eqb b 39

set_option maxHeartbeats 400000 in
set_option maxRecDepth 100000 in
theorem slIndexByte_any (s : ByteArray) (c : Int) (w : World) :
    Calls Try.prog 10 #[.string s, .int .u8 c] w fun e w' => e = .returned (.int .i64 (Lib.indexByte s.data.toList c.toNat.toUInt8)) ∧ w' = w := by
  go_enter Try.func10, Try.ntmps10
  go_wp2
  rw [run_callFunc_extern Try.func11 (by kernel_rfl) (by kernel_rfl) (by kernel_rfl) (e := Extern.BytealgIndexByte.indexByte) (by kernel_rfl), Lib.run_indexByteString]
  simp only [Result.andThen]
  rw [Oper.upon_value]
  go_wp2
  go_ret
  exact ⟨rfl, rfl⟩
set_option maxHeartbeats 400000 in
theorem strIndexByte_any (s : ByteArray) (c : Int) (w : World) :
    Calls Try.prog 9 #[.string s, .int .u8 c] w fun e w' => e = .returned (.int .i64 (Lib.indexByte s.data.toList c.toNat.toUInt8)) ∧ w' = w := by
  go_enter Try.func9, Try.ntmps9
  go_wp2_with (go_at_call 10; refine (slIndexByte_any _ _ _).mono ?_; rintro e w' ⟨rfl, rfl⟩)
  go_ret
  exact ⟨rfl, rfl⟩


theorem bl_length (s : ByteArray) : (bl s).length = s.size := by unfold bl; rw [Array.length_toList]; rfl
theorem bl_app (s t : ByteArray) : bl (s ++ t) = bl s ++ bl t := by
  unfold bl
  rw [ByteArray.data_append, Array.toList_append]
theorem bl_inj {s t : ByteArray} (h : bl s = bl t) : s = t := by
  obtain ⟨⟨l⟩⟩ := s
  obtain ⟨⟨m⟩⟩ := t
  simp only [bl] at h
  rw [h]
theorem bl_inj' {s t : ByteArray} (h : bl s = bl t) : (s.toList == t.toList) = true := by rw [tl, tl, h]; simp
theorem bl_extract (s : ByteArray) (a b : Nat) : bl (s.extract a b) = ((bl s).drop a).take (b - a) := by
  unfold bl
  obtain ⟨⟨l⟩⟩ := s
  rw [ByteArray.extract_mk]
theorem bl_tail (s : ByteArray) (k : Nat) : bl (s.extract k s.size) = (bl s).drop k := by
  rw [bl_extract]
  exact List.take_of_length_le (by rw [List.length_drop, bl_length]; omega)
theorem bl_get (s : ByteArray) (k : Nat) (h : k < s.size) : (bl s)[k]? = some s[k] := by
  unfold bl
  rw [Array.getElem?_toList]
  exact Array.getElem?_eq_getElem h
theorem not_empty {s : ByteArray} (h : 0 < s.size) : s.toList.isEmpty = false := by
  rw [tl]
  have := bl_length s
  cases e : bl s
  · rw [e] at this; simp at this; omega
  · rfl
theorem is_empty {s : ByteArray} (h : ¬ 0 < s.size) : s.toList.isEmpty = true := by
  rw [tl]
  have := bl_length s
  cases e : bl s
  · rfl
  · rw [e] at this; simp at this; omega

/-- the sign of strings.IndexByte: is the byte among those? -/
theorem idx_sign : ∀ (l : List UInt8) (c : UInt8), 0 ≤ Lib.indexByte l c ↔ c ∈ l
  | [], c => by simp [Lib.indexByte]
  | b :: t, c => by
    have ih := idx_sign t c
    have hge := Lib.indexByte_ge t c
    unfold Lib.indexByte
    by_cases h : b = c
    · simp [h]
    · have h' : (b == c) = false := by simpa using h
      rw [h']
      by_cases h1 : Lib.indexByte t c = -1
      · have : ¬ c ∈ t := fun hm => by have := ih.2 hm; omega
        have hc : c ≠ b := fun e => h e.symm
        simp [h1, this, hc]
      · have h2 : (Lib.indexByte t c == -1) = false := by simpa using h1
        have h3 : c ∈ t := ih.1 (by omega)
        simp [h2, h3]
        omega
theorem toNat_back (b : UInt8) : ((b.toNat : Int)).toNat.toUInt8 = b := by
  simp
theorem mem_quoted (b : UInt8) : 0 ≤ Lib.indexByte (⟨#[61, 43, 45, 64, 9, 13, 39]⟩ : ByteArray).data.toList ((b.toNat : Int)).toNat.toUInt8 ↔ quoted b = true := by
  rw [idx_sign, toNat_back]
  unfold quoted eqb
  simp [← UInt8.toNat_inj]
  omega

/-- asText's answer -/
def asT (s : ByteArray) : ByteArray := if h : 0 < s.size then (if quoted s[0] = true then ⟨#[39]⟩ ++ s else s) else s

set_option maxHeartbeats 400000 in
theorem asText_any (s : ByteArray) (w : World) (hs : s.size ≤ 1048576) :
    Calls Try.prog 8 #[.string s] w fun e w' => e = .returned (.string (asT s)) ∧ w' = w := by
  by_cases h0 : 0 < s.size
  · have he := not_empty h0
    cases hq : quoted s[0]
    · have HR : Hid (asT s = s) := by show _ = _; rw [asT, dif_pos h0, if_neg (by rw [hq]; exact Bool.false_ne_true)]
      obtain ⟨v, hv⟩ : ∃ v : Int, v = Lib.indexByte (⟨#[61, 43, 45, 64, 9, 13, 39]⟩ : ByteArray).data.toList ((s[0].toNat : Int)).toNat.toUInt8 := ⟨_, rfl⟩
      have hn : ¬ 0 ≤ v := by
        intro h
        rw [hv, mem_quoted, hq] at h
        cases h
      have HC : Hid (∀ w', Calls Try.prog 9 #[.string ⟨#[61, 43, 45, 64, 9, 13, 39]⟩, .int .u8 (s[0].toNat : Int)] w' fun e w'' => e = .returned (.int .i64 v) ∧ w'' = w') := fun w' => by rw [hv]; exact strIndexByte_any _ _ _
      clear hq hv
      go_enter Try.func8, Try.ntmps8
      go_wp2_with (go_at_call 9; refine (HC.out _).mono ?_; rintro e w' ⟨rfl, hw⟩; rw [hw]; clear hw)
      go_ret
      exact ⟨ret_string HR.out.symm, rfl⟩
    · have HR : Hid (asT s = ⟨#[39]⟩ ++ s) := by show _ = _; rw [asT, dif_pos h0, if_pos hq]
      obtain ⟨v, hv⟩ : ∃ v : Int, v = Lib.indexByte (⟨#[61, 43, 45, 64, 9, 13, 39]⟩ : ByteArray).data.toList ((s[0].toNat : Int)).toNat.toUInt8 := ⟨_, rfl⟩
      have hn : 0 ≤ v := by
        rw [hv]; exact (mem_quoted _).2 hq
      have HC : Hid (∀ w', Calls Try.prog 9 #[.string ⟨#[61, 43, 45, 64, 9, 13, 39]⟩, .int .u8 (s[0].toNat : Int)] w' fun e w'' => e = .returned (.int .i64 v) ∧ w'' = w') := fun w' => by rw [hv]; exact strIndexByte_any _ _ _
      clear hq hv
      go_enter Try.func8, Try.ntmps8
      go_wp2_with (go_at_call 9; refine (HC.out _).mono ?_; rintro e w' ⟨rfl, hw⟩; rw [hw]; clear hw)
      go_ret
      exact ⟨ret_string HR.out.symm, rfl⟩
  · have he := is_empty h0
    have HR : Hid (asT s = s) := by show _ = _; rw [asT, dif_neg h0]
    go_enter Try.func8, Try.ntmps8
    go_wp2_with fail
    go_ret
    exact ⟨ret_string HR.out.symm, rfl⟩

set_option maxHeartbeats 400000 in
theorem zzText_any (s : ByteArray) (w : World) (hs : s.size ≤ 1048576) :
    Calls Try.prog 6 #[.string s] w fun e w' => e = .returned (.string (asT s)) ∧ w' = w := by
  go_enter Try.func6, Try.ntmps6
  go_wp2_with (go_at_call 8; refine (asText_any s _ hs).mono ?_; rintro e w' ⟨rfl, hw⟩; rw [hw]; clear hw)
  go_ret
  exact ⟨rfl, rfl⟩

/-- the bytes that a spreadsheet takes for a formula's start -/
def formula (b : Int) : Bool := b == 61 || b == 43 || b == 45 || b == 64 || b == 9 || b == 13
set_option maxHeartbeats 400000 in
theorem formula_any (b : Int) (w : World) : Calls Try.prog 7 #[.int .u8 b] w fun e w' => e = .returned (.bool (formula b)) ∧ w' = w := by
  cases h1 : b == 61 <;> cases h2 : b == 43 <;> cases h3 : b == 45 <;> cases h4 : b == 64 <;> cases h5 : b == 9 <;> cases h6 : b == 13
  all_goals
    have HF : Hid (formula b = (b == 61 || b == 43 || b == 45 || b == 64 || b == 9 || b == 13)) := rfl
    go_enter Try.func7, Try.ntmps7
    go_wp2
    go_ret
    exact ⟨ret_bool (by rw [HF.out, h1, h2, h3, h4, h5, h6]; rfl), rfl⟩

set_option maxHeartbeats 400000 in
theorem bytes4 (a b : ByteArray) (w : World) (ha : a.size ≤ maxLen) (hb : b.size ≤ maxLen) : Calls Try.prog 4 #[.string a, .string b] w fun e w' => e = .returned (.bool (decide (a.size + b.size ≤ 1048576))) ∧ w' = w := by
  unfold maxLen at ha hb
  by_cases h1 : a.size ≤ 1048576
  · by_cases h2 : b.size ≤ 1048576
    · by_cases h : a.size + b.size ≤ 1048576
      · have HD : Hid (decide (a.size + b.size ≤ 1048576) = true) := decide_eq_true h
        go_enter Try.func4, Try.ntmps4
        go_wp2
        go_ret
        exact ⟨ret_bool HD.out.symm, rfl⟩
      · have HD : Hid (decide (a.size + b.size ≤ 1048576) = false) := decide_eq_false h
        go_enter Try.func4, Try.ntmps4
        go_wp2
        go_ret
        exact ⟨ret_bool HD.out.symm, rfl⟩
    · have HD : Hid (decide (a.size + b.size ≤ 1048576) = false) := decide_eq_false (by omega)
      go_enter Try.func4, Try.ntmps4
      go_wp2
      go_ret
      exact ⟨ret_bool HD.out.symm, rfl⟩
  · have HD : Hid (decide (a.size + b.size ≤ 1048576) = false) := decide_eq_false (by omega)
    go_enter Try.func4, Try.ntmps4
    go_wp2
    go_ret
    exact ⟨ret_bool HD.out.symm, rfl⟩
end Go.Proofs.Qxb6003327a
