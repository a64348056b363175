import Derived.Test.Qxb6001690aLeaf
import Derived.Lib.Walk
import Derived.Lib.Bytealg
import Derived.BigQuiet
namespace Go.Proofs.Qxb6001690a
open Go.RowKit

set_option maxHeartbeats 400000 in
set_option maxRecDepth 100000 in
theorem indexByte_any (s : ByteArray) (c : Int) (w : World) :
    Calls Try.prog 117 #[.string s, .int .u8 c] w fun e w' => e = .returned (.int .i64 (Lib.indexByte (bl s) c.toNat.toUInt8)) ∧ w' = w := by
  go_enter Try.func117, Try.ntmps117
  go_wp2
  rw [run_callFunc_extern Try.func129 (by kernel_rfl) (by kernel_rfl) (by kernel_rfl) (e := Extern.BytealgIndexByte.indexByte) (by kernel_rfl), Lib.run_indexByteString]
  simp only [Result.andThen]
  rw [Oper.upon_value]
  go_wp2
  go_ret
  exact ⟨rfl, rfl⟩

theorem indexByte_miss : ∀ (l : List UInt8), (10 : UInt8) ∉ l → Lib.indexByte l 10 = -1
  | [], _ => rfl
  | b :: t, h => by
    have hb : (b == 10) = false := by simpa using fun e : b = 10 => h (by simp [e])
    have ht : (10 : UInt8) ∉ t := fun e => h (by simp [e])
    simp [Lib.indexByte, hb, indexByte_miss t ht]
theorem indexByte_hit : ∀ (a b : List UInt8), (10 : UInt8) ∉ a → Lib.indexByte (a ++ 10 :: b) 10 = a.length
  | [], b, _ => by simp [Lib.indexByte]
  | c :: t, b, h => by
    have hb : (c == 10) = false := by simpa using fun e : c = 10 => h (by simp [e])
    have ht : (10 : UInt8) ∉ t := fun e => h (by simp [e])
    have ih := indexByte_hit t b ht
    simp only [List.cons_append, Lib.indexByte, hb, ih]
    have : ((t.length : Int) == -1) = false := by simp
    simp [this]

theorem index_self (s : ByteArray) (h : ([10] == s.toList) = true) : Lib.indexByte (bl s) 10 = 0 := by
  have e : bl s = [10] := by
    have := (beq_iff_eq.1 h).symm
    rwa [ByteArray.toList_eq] at this
  rw [e]; rfl

set_option maxHeartbeats 400000 in
theorem index_any (s : ByteArray) (w : World) :
    Calls Try.prog 127 #[.string s, .string ⟨#[10]⟩] w fun e w' => e = .returned (.int .i64 (Lib.indexByte (bl s) 10)) ∧ w' = w := by
  by_cases h : ([10] == s.toList) = true
  · have hi : Hid (Lib.indexByte (bl s) 10 = 0) := index_self s h
    go_enter Try.func127, Try.ntmps127
    go_wp2_with (go_at_call 117; refine (indexByte_any _ _ _).mono ?_; rintro e w' ⟨rfl, rfl⟩)
    go_ret
    exact ⟨ret_int hi.out.symm, rfl⟩
  · have h' : ([10] == s.toList) = false := by simpa using h
    clear h
    go_enter Try.func127, Try.ntmps127
    go_wp2_with (go_at_call 117; refine (indexByte_any _ _ _).mono ?_; rintro e w' ⟨rfl, rfl⟩)
    go_ret
    exact ⟨rfl, rfl⟩

set_option maxHeartbeats 400000 in
theorem cut_miss (s : ByteArray) (w : World) (h : (10 : UInt8) ∉ bl s) :
    Calls Try.prog 115 #[.string s, .string ⟨#[10]⟩] w fun e w' => e = .returned (.tuple #[.string s, .string ⟨#[]⟩, .bool false]) ∧ w' = w := by
  have hi : Hid (Lib.indexByte (bl s) 10 = -1) := indexByte_miss _ h
  go_enter Try.func115, Try.ntmps115
  go_wp2_with (go_at_call 127; refine (index_any _ _).mono ?_; rintro e w' ⟨rfl, rfl⟩; rw [hi.out])
  go_ret3
  exact ⟨rfl, rfl⟩

set_option maxHeartbeats 400000 in
theorem cut_hit (s : ByteArray) (k : Nat) (w : World) (hk : k < s.size) (hs : s.size ≤ 1048576) (h : Lib.indexByte (bl s) 10 = k) :
    Calls Try.prog 115 #[.string s, .string ⟨#[10]⟩] w fun e w' => e = .returned (.tuple #[.string (s.extract 0 k), .string (s.extract (k + 1) s.size), .bool true]) ∧ ∃ n, w' = w.drewN n := by
  have hi : Hid (Lib.indexByte (bl s) 10 = k) := h
  clear h
  have h1 : (k : Int) ≤ s.size := by omega
  have h2 : (k : Int) + 1 ≤ s.size := by omega
  go_enter Try.func115, Try.ntmps115
  go_wp2_with (go_at_call 127; refine (index_any _ _).mono ?_; rintro e w' ⟨rfl, rfl⟩; rw [hi.out])
  go_quiet (fail)
  go_wp2
  go_ret3
  exact ⟨rfl, _, rfl⟩

/-- the lines that are still to come: none where no line feed was found -/
def moreLines (m : Bool) (r : List UInt8) : List (List UInt8) := if m = true then splitNL r else []

set_option maxHeartbeats 400000 in
theorem cut_any (s : ByteArray) (w : World) (hs : s.size ≤ 1048576) :
    Calls Try.prog 98 #[.string s, .string ⟨#[10]⟩] w fun e w' => ∃ (f r : ByteArray) (m : Bool), e = .returned (.tuple #[.string f, .string r, .bool m]) ∧
      Hid (splitNL (bl s) = bl f :: moreLines m (bl r)) ∧ f.size + r.size ≤ s.size ∧ (m = true → f.size + r.size + 1 ≤ s.size) ∧ ∃ n, w' = w.drewN n := by
  rcases split_cases (bl s) with h | ⟨a, b, h, ha⟩
  · go_enter Try.func98, Try.ntmps98
    go_wp2_with (go_at_call 115; refine (cut_miss _ _ h).mono ?_; rintro e w' ⟨rfl, rfl⟩)
    go_ret3
    refine ⟨s, ⟨#[]⟩, false, rfl, ?_, Nat.le_refl _, (fun e => by cases e), 0, rfl⟩
    show _ = _
    rw [splitNL_end _ h]; rfl
  · have hl := congrArg List.length h
    rw [bl_length] at hl
    simp at hl
    have hi := indexByte_hit a b ha
    rw [← h] at hi
    have H : Hid (bl s = a ++ 10 :: b) := h
    clear h
    have hlt : a.length < s.size := by omega
    have C := fun w => cut_hit s a.length w hlt hs hi
    have HC : Hid (∀ w, Calls Try.prog 115 #[.string s, .string ⟨#[10]⟩] w fun e w' => e = .returned (.tuple #[.string (s.extract 0 a.length), .string (s.extract (a.length + 1) s.size), .bool true]) ∧ ∃ n, w' = w.drewN n) := C
    clear C hi hl
    go_enter Try.func98, Try.ntmps98
    go_wp2_with (go_at_call 115; refine (HC.out _).mono ?_; rintro e w' ⟨rfl, n, rfl⟩)
    go_ret3
    have e1 : bl (s.extract 0 a.length) = a := by rw [bl_extract, H.out]; simp
    have e2 : bl (s.extract (a.length + 1) s.size) = b := by rw [bl_tail, H.out]; simp
    have l2 : (s.extract 0 a.length).size + (s.extract (a.length + 1) s.size).size + 1 = s.size := by
      have h1 := congrArg List.length e1
      have h2 := congrArg List.length e2
      have h3 := congrArg List.length H.out
      rw [bl_length] at h1 h2 h3
      simp only [List.length_append, List.length_cons] at h3
      omega
    refine ⟨_, _, true, rfl, ?_, by omega, (fun _ => by omega), _, rfl⟩
    show _ = _
    rw [e1, e2, H.out, splitNL_hit a b ha]; rfl
end Go.Proofs.Qxb6001690a
