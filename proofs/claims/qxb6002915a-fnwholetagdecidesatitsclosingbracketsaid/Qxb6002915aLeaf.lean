import Derived.Test.Qxb6002915aProg
import Derived.Test.Qxb6002915aPlain
import Derived.WalkKit
import Derived.WalkSpells
import Derived.Lib.Walk
import Derived.Lib.Bytealg
import Derived.Lib.BytesEntry
import Derived.WalkLawsBesides
namespace Go.Proofs.Qxb6002915a
open Go.RowKit
set_option linter.unusedVariables false

theorem ret_bool {a b : Bool} (h : a = b) : Ending.returned (.bool a) = .returned (.bool b) := by rw [h]
theorem ret_int {k : IntKind} {a b : Int} (h : a = b) : Ending.returned (.int k a) = .returned (.int k b) := by rw [h]

theorem letter_iff (b : UInt8) : letter b = true ↔ (97 ≤ (b.toNat : Int) ∧ (b.toNat : Int) ≤ 122) ∨ (65 ≤ (b.toNat : Int) ∧ (b.toNat : Int) ≤ 90) := by
  unfold letter; simp; omega
theorem digit_iff (b : UInt8) : digit b = true ↔ 48 ≤ (b.toNat : Int) ∧ (b.toNat : Int) ≤ 57 := by
  unfold digit; simp; omega
theorem or32 (b : UInt8) : (97 ≤ bits BinOp.or IntKind.u8 (b.toNat : Int) 32 ∧ bits BinOp.or IntKind.u8 (b.toNat : Int) 32 ≤ 122) ↔ letter b = true := by
  have key : ∀ n : Fin 256, (97 ≤ bits BinOp.or IntKind.u8 ((n.val : Nat) : Int) 32 ∧ bits BinOp.or IntKind.u8 ((n.val : Nat) : Int) 32 ≤ 122) ↔ ((97 ≤ n.val ∧ n.val ≤ 122) ∨ (65 ≤ n.val ∧ n.val ≤ 90)) := by decide +kernel
  have := key ⟨b.toNat, b.toNat_lt⟩
  rw [this]
  unfold letter
  simp

set_option maxHeartbeats 400000 in
theorem zwLetter_any (b : UInt8) (w : World) : Calls Try.prog 29 #[.int .u8 (b.toNat : Int)] w fun e w' => e = .returned (.bool (letter b)) ∧ w' = w := by
  have H : Hid (letter b = true ↔ (97 ≤ (b.toNat : Int) ∧ (b.toNat : Int) ≤ 122) ∨ (65 ≤ (b.toNat : Int) ∧ (b.toNat : Int) ≤ 90)) := letter_iff b
  go_enter Try.func29, Try.ntmps29
  go_wp2
  all_goals
    go_ret
    refine ⟨ret_bool ?_, rfl⟩
    rw [Bool.eq_iff_iff, H.out]
    simp
    try omega
set_option maxHeartbeats 400000 in
theorem zwDigit_any (b : UInt8) (w : World) : Calls Try.prog 30 #[.int .u8 (b.toNat : Int)] w fun e w' => e = .returned (.bool (digit b)) ∧ w' = w := by
  have H : Hid (digit b = true ↔ 48 ≤ (b.toNat : Int) ∧ (b.toNat : Int) ≤ 57) := digit_iff b
  go_enter Try.func30, Try.ntmps30
  go_wp2
  all_goals
    go_ret
    refine ⟨ret_bool ?_, rfl⟩
    rw [Bool.eq_iff_iff, H.out]
    simp
    try omega
set_option maxHeartbeats 400000 in
theorem isLetter_any (b : UInt8) (w : World) : Calls Try.prog 24 #[.int .u8 (b.toNat : Int)] w fun e w' => e = .returned (.bool (letter b)) ∧ w' = w := by
  have H : Hid ((97 ≤ bits BinOp.or IntKind.u8 (b.toNat : Int) 32 ∧ bits BinOp.or IntKind.u8 (b.toNat : Int) 32 ≤ 122) ↔ letter b = true) := or32 b
  go_enter Try.func24, Try.ntmps24
  go_wp2
  all_goals
    go_ret
    refine ⟨ret_bool ?_, rfl⟩
    rw [Bool.eq_iff_iff, ← H.out]
    simp
    try omega
set_option maxHeartbeats 400000 in
theorem isAlnum_any (b : UInt8) (w : World) : Calls Try.prog 25 #[.int .u8 (b.toNat : Int)] w fun e w' => e = .returned (.bool (letter b || digit b)) ∧ w' = w := by
  have H : Hid (digit b = true ↔ 48 ≤ (b.toNat : Int) ∧ (b.toNat : Int) ≤ 57) := digit_iff b
  go_enter Try.func25, Try.ntmps25
  go_wp2_with fail
  refine (isLetter_any b _).mono ?_
  rintro e w' ⟨rfl, hw⟩
  rw [hw]
  clear hw
  cases hl : letter b
  · go_wp2
    all_goals
      go_ret
      refine ⟨ret_bool ?_, rfl⟩
      try rw [hl]
      try rw [Bool.false_or]
      rw [Bool.eq_iff_iff, H.out]
      simp
      try omega
  · go_wp2
    go_ret
    exact ⟨ret_bool (by rw [hl]; rfl), rfl⟩
theorem white_iff (b : UInt8) : white b = true ↔ (b.toNat : Int) = 32 ∨ (b.toNat : Int) = 9 ∨ (b.toNat : Int) = 11 ∨ (b.toNat : Int) = 12 := by
  unfold white eqb; simp; omega
set_option maxHeartbeats 400000 in
theorem zwWhite_any (b : UInt8) (w : World) : Calls Try.prog 31 #[.int .u8 (b.toNat : Int)] w fun e w' => e = .returned (.bool (white b)) ∧ w' = w := by
  have H : Hid (white b = true ↔ (b.toNat : Int) = 32 ∨ (b.toNat : Int) = 9 ∨ (b.toNat : Int) = 11 ∨ (b.toNat : Int) = 12) := white_iff b
  go_enter Try.func31, Try.ntmps31
  go_wp2
  all_goals
    go_ret
    refine ⟨ret_bool ?_, rfl⟩
    rw [Bool.eq_iff_iff, H.out]
    simp
    try omega
theorem unq_iff (b : UInt8) : unq b = true ↔ 32 < (b.toNat : Int) ∧ (b.toNat : Int) ≠ 34 ∧ (b.toNat : Int) ≠ 39 ∧ (b.toNat : Int) ≠ 61 ∧ (b.toNat : Int) ≠ 60 ∧ (b.toNat : Int) ≠ 62 ∧ (b.toNat : Int) ≠ 96 := by
  unfold unq eqb; simp; omega
set_option maxHeartbeats 400000 in
theorem zwUnq_any (b : UInt8) (w : World) : Calls Try.prog 32 #[.int .u8 (b.toNat : Int)] w fun e w' => e = .returned (.bool (unq b)) ∧ w' = w := by
  have H : Hid (unq b = true ↔ 32 < (b.toNat : Int) ∧ (b.toNat : Int) ≠ 34 ∧ (b.toNat : Int) ≠ 39 ∧ (b.toNat : Int) ≠ 61 ∧ (b.toNat : Int) ≠ 60 ∧ (b.toNat : Int) ≠ 62 ∧ (b.toNat : Int) ≠ 96) := unq_iff b
  go_enter Try.func32, Try.ntmps32
  go_wp2
  all_goals
    go_ret
    refine ⟨ret_bool ?_, rfl⟩
    rw [Bool.eq_iff_iff, H.out]
    simp
    try omega

/-- the bytes L lie from the head of block g on -/
def Row (w : World) (g : Nat) (L : List UInt8) : Prop := ∀ j (h : j < L.length), w.cell? ⟨g, j, none⟩ = some (.int .u8 (L[j].toNat : Int))

theorem not_white {b : UInt8} (h : white b = false) : ((b.toNat : Int) == 32) = false ∧ ((b.toNat : Int) == 9) = false ∧ ((b.toNat : Int) == 11) = false ∧ ((b.toNat : Int) == 12) = false := by
  have h' : ¬ ((b.toNat : Int) = 32 ∨ (b.toNat : Int) = 9 ∨ (b.toNat : Int) = 11 ∨ (b.toNat : Int) = 12) := fun e => Bool.false_ne_true (h.symm.trans ((white_iff b).2 e))
  simp
  omega

set_option maxHeartbeats 1000000 in
theorem skip_any (L : List UInt8) (g cap i0 : Nat) (w : World) (hi : i0 ≤ L.length) (hL : L.length ≤ 65536) (hR : Row w g L) :
    Calls Try.prog 26 #[.slice (some ⟨g, 0, none⟩) L.length cap, .int .i64 i0] w fun e w' => e = .returned (.int .i64 (skip L i0)) ∧ w' = w := by
  have HR : Hid (Row w g L) := hR
  clear hR
  go_enter Try.func26, Try.ntmps26
  go_wp2
  go_loop [1] (fun i => ∃ k : Nat, k ≤ L.length ∧ i = .int .i64 k ∧ Hid (skip L i0 = skip L k)) (fun i => L.length - (intOf i).toNat)
  case atStart => exact ⟨i0, hi, rfl, rfl⟩
  case round =>
    obtain ⟨k, hk, rfl, hh⟩ := hrel
    by_cases hlt : k < L.length
    · have hc := HR.out k hlt
      cases hw : white L[k]
      · have hn : Hid (skip L i0 = k) := hh.out.trans (skip_no hlt hw)
        obtain ⟨n1, n2, n3, n4⟩ := not_white hw
        clear hw
        go_wp2
        go_ret
        exact ⟨ret_int (by rw [hn.out]), rfl⟩
      · have hn : Hid (skip L i0 = skip L (k + 1)) := hh.out.trans (skip_yes hlt hw)
        have hor := (white_iff L[k]).1 hw
        clear hw
        rcases hor with h | h | h | h
        all_goals
          go_wp2
          go_round
          case rel => exact ⟨k + 1, by omega, by go_num, hn⟩
          case measure => simp [intOf]; omega
    · have hn : Hid (skip L i0 = k) := hh.out.trans (skip_end (by omega))
      go_wp2
      go_ret
      exact ⟨ret_int (by rw [hn.out]), rfl⟩

set_option maxHeartbeats 400000 in
set_option maxRecDepth 100000 in
theorem slIndexByte_any (s : ByteArray) (c : Int) (w : World) :
    Calls Try.prog 33 #[.string s, .int .u8 c] w fun e w' => e = .returned (.int .i64 (Lib.indexByte s.data.toList c.toNat.toUInt8)) ∧ w' = w := by
  go_enter Try.func33, Try.ntmps33
  go_wp2
  rw [run_callFunc_extern Try.func35 (by kernel_rfl) (by kernel_rfl) (by kernel_rfl) (e := Extern.BytealgIndexByte.indexByte) (by kernel_rfl), Lib.run_indexByteString]
  simp only [Result.andThen]
  rw [Oper.upon_value]
  go_wp2
  go_ret
  exact ⟨rfl, rfl⟩
set_option maxHeartbeats 400000 in
theorem strIndexByte_any (s : ByteArray) (c : Int) (w : World) :
    Calls Try.prog 27 #[.string s, .int .u8 c] w fun e w' => e = .returned (.int .i64 (Lib.indexByte s.data.toList c.toNat.toUInt8)) ∧ w' = w := by
  go_enter Try.func27, Try.ntmps27
  go_wp2_with (go_at_call 33; refine (slIndexByte_any _ _ _).mono ?_; rintro e w' ⟨rfl, rfl⟩)
  go_ret
  exact ⟨rfl, rfl⟩
set_option maxHeartbeats 400000 in
set_option maxRecDepth 100000 in
theorem bytesIndexByte_any (b o n c : Nat) (xs : List Int) (cv : Int) (w : World) (hx : xs.length = n) (hc : ∀ i, i < n → w.cell? ⟨b, o + i, none⟩ = some (.int .u8 (xs.getD i 0))) :
    Calls Try.prog 28 #[.slice (some ⟨b, o, none⟩) n c, .int .u8 cv] w fun e w' => e = .returned (.int .i64 (Lib.indexByte (Lib.bytesOf xs) cv.toNat.toUInt8)) ∧ w' = w := by
  go_enter Try.func28, Try.ntmps28
  go_wp2
  rw [run_callFunc_extern Try.func34 (by kernel_rfl) (by kernel_rfl) (by kernel_rfl) (e := Extern.BytealgIndexByte.indexByte) (by kernel_rfl), Lib.run_indexByteSlice w b o n c xs hx hc cv]
  simp only [Result.andThen]
  rw [Oper.upon_value]
  go_wp2
  go_ret
  exact ⟨rfl, rfl⟩
end Go.Proofs.Qxb6002915a
