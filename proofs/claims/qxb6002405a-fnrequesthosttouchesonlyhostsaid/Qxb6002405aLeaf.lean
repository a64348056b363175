import Derived.Test.Qxb6002405aProg
import Derived.WalkKit
import Derived.WalkSpells
import Derived.Lib.Walk
import Derived.Lib.Bytealg
import Derived.BigQuiet
import Derived.Laws.Runes
import Derived.WalkLawsBesides
namespace Go.Proofs.Qxb6002405a
open Go.RowKit
set_option linter.unusedVariables false

theorem ret_bool {a b : Bool} (h : a = b) : Ending.returned (.bool a) = .returned (.bool b) := by rw [h]
theorem ret_int {k : IntKind} {a b : Int} (h : a = b) : Ending.returned (.int k a) = .returned (.int k b) := by rw [h]

set_option maxHeartbeats 400000 in
set_option maxRecDepth 100000 in
theorem indexByte20 (s : ByteArray) (c : Int) (w : World) :
    Calls Try.prog 20 #[.string s, .int .u8 c] w fun e w' => e = .returned (.int .i64 (Lib.indexByte s.data.toList c.toNat.toUInt8)) ∧ w' = w := by
  go_enter Try.func20, Try.ntmps20
  go_wp2
  rw [run_callFunc_extern Try.func21 (by kernel_rfl) (by kernel_rfl) (by kernel_rfl) (e := Extern.BytealgIndexByte.indexByte) (by kernel_rfl), Lib.run_indexByteString]
  simp only [Result.andThen]
  rw [Oper.upon_value]
  go_wp2
  go_ret
  exact ⟨rfl, rfl⟩
set_option maxHeartbeats 400000 in
theorem indexByte16 (s : ByteArray) (c : Int) (w : World) :
    Calls Try.prog 16 #[.string s, .int .u8 c] w fun e w' => e = .returned (.int .i64 (Lib.indexByte s.data.toList c.toNat.toUInt8)) ∧ w' = w := by
  go_enter Try.func16, Try.ntmps16
  go_wp2_with (go_at_call 20; refine (indexByte20 _ _ _).mono ?_; rintro e w' ⟨rfl, rfl⟩)
  go_ret
  exact ⟨rfl, rfl⟩

def hostSigns : ByteArray := ⟨#[45, 46, 95, 126, 33, 36, 38, 39, 40, 41, 42, 43, 44, 59, 61, 37, 58, 91, 93]⟩

set_option maxHeartbeats 2000000 in
set_option maxRecDepth 1000000 in
theorem indexRune_ascii (s : ByteArray) (r : Int) (w : World) (h0 : 0 ≤ r) (h1 : r < 128) :
    Calls Try.prog 15 #[.string s, .int .i32 r] w fun e w' => e = .returned (.int .i64 (Lib.indexByte s.data.toList r.toNat.toUInt8)) ∧ w' = w := by
  go_enter Try.func15, Try.ntmps15
  go_wp2_with (go_at_call 16; refine (indexByte16 _ _ _).mono ?_; rintro e w' ⟨rfl, rfl⟩)
  go_ret
  exact ⟨rfl, rfl⟩
theorem enc2 (r : Int) (h0 : 128 ≤ r) (h1 : r < 256) : ∃ x y : UInt8, Utf8.encode r = ⟨#[x, y]⟩ ∧ 128 ≤ y.toNat := by
  have hv : Utf8.valid r = true := by unfold Utf8.valid; simp; omega
  have e1 : ¬ r.toNat < 0x80 := by omega
  have e2 : r.toNat < 0x800 := by omega
  refine ⟨UInt8.ofNat (0xC0 + r.toNat / 64), UInt8.ofNat (0x80 + r.toNat % 64), ?_, ?_⟩
  · unfold Utf8.encode
    simp only [hv, if_true, if_neg e1, if_pos e2]
  · rw [UInt8.toNat_ofNat']
    omega
theorem idx_none : ∀ (l : List UInt8) (c : UInt8), (∀ b ∈ l, b ≠ c) → Lib.indexByte l c = -1
  | [], _, _ => rfl
  | b :: t, c, h => by
    have hb : (b == c) = false := by simpa using h b (by simp)
    simp [Lib.indexByte, hb, idx_none t c (fun x hx => h x (by simp [hx]))]
theorem ne_high {b y : UInt8} (hb : b.toNat < 128) (hy : 128 ≤ y.toNat) : b ≠ y := fun e => by rw [e] at hb; omega
theorem neq_high {b y : UInt8} (hb : b.toNat < 128) (hy : 128 ≤ y.toNat) : (((b.toNat : Int)) != (y.toNat : Int)) = true := by simp; omega

set_option maxHeartbeats 400000 in
theorem validRune_any (r : Int) (w : World) (h0 : 128 ≤ r) (h1 : r < 256) : Calls Try.prog 17 #[.int .i32 r] w fun e w' => e = .returned (.bool true) ∧ w' = w := by
  go_enter Try.func17, Try.ntmps17
  go_wp2
  go_ret
  exact ⟨rfl, rfl⟩

set_option maxHeartbeats 2000000 in
set_option maxRecDepth 1000000 in
theorem indexRune_high (s : ByteArray) (r : Int) (w : World) (h0 : 128 ≤ r) (h1 : r < 256) (hs : 2 ≤ s.size) (hs2 : s.size ≤ 1048576) (hall : ∀ b ∈ s.data.toList, b.toNat < 128) :
    Calls Try.prog 15 #[.string s, .int .i32 r] w fun e w' => e = .returned (.int .i64 (-1)) ∧ ∃ n, w' = w.drewN n := by
  obtain ⟨x, y, he, hy⟩ := enc2 r h0 h1
  have hb1 : s[1].toNat < 128 := hall _ (by
    have : s[1] = s.data.toList[1]'(by simpa using (show 1 < s.size by omega)) := rfl
    rw [this]; exact List.getElem_mem _)
  have hne := neq_high hb1 hy
  have HX : Hid (∀ z : UInt8, z = y → Lib.indexByte (s.extract 2 s.size).data.toList z = -1) := fun z hz => idx_none _ _ (fun b hb => by
    have : b ∈ s.data.toList := by
      obtain ⟨⟨l⟩⟩ := s
      rw [ByteArray.extract_mk] at hb
      exact List.mem_of_mem_drop (List.mem_of_mem_take hb)
    rw [hz]
    exact ne_high (hall b this) hy)
  have hw2 : IntKind.i64.wrap 2 = 2 := by decide
  have hgy : ∀ hp, ((⟨#[x, y]⟩ : ByteArray)[1]'hp) = y := fun _ => rfl
  have hs3 : (2 : Int) ≤ s.size := by omega
  clear hall hb1
  go_enter Try.func15, Try.ntmps15
  go_wp2_with (go_at_call 17; refine (validRune_any _ _ h0 h1).mono ?_; rintro e w' ⟨rfl, rfl⟩)
  go_step3
  go_wp2_with fail
  refine wp_loop_rounds 1 ?_
  rw [rounds_succ]
  go_wp2_with fail
  go_step3
  go_wp2_with fail
  go_quiet (fail)
  generalize hW : World.drewN _ nq = W
  have HW : Hid (World.drewN _ nq = W) := hW
  clear hW
  go_wp2_with fail
  have HC : Hid (∀ W : World, Calls Try.prog 16 #[.string (s.extract 2 s.size), .int .u8 (y.toNat : Int)] W fun e w' => e = .returned (.int .i64 (-1)) ∧ w' = W) := fun W => by
    refine (indexByte16 _ _ _).mono ?_
    rintro e w' ⟨rfl, rfl⟩
    exact ⟨ret_int (HX.out _ (by simp)), rfl⟩
  go_quiet ((go_at_call 16; exact Calls.quiet_of_same (HC.out _)))
  go_wp2_with fail
  rw [Exit.noGoto_ret]
  simp only [Exit.inBlock, Exit.then]
  rw [Exit.noGoto_ret]
  go_ret
  refine ⟨rfl, ?_⟩
  rw [← HW.out, World.drewN_drewN]
  exact ⟨_, rfl⟩

theorem hs_ascii : ∀ b ∈ (⟨#[45, 46, 95, 126, 33, 36, 38, 39, 40, 41, 42, 43, 44, 59, 61, 37, 58, 91, 93]⟩ : ByteArray).data.toList, b.toNat < 128 := by decide

set_option maxHeartbeats 400000 in
theorem containsRune_any (r : Int) (w : World) (h0 : 0 ≤ r) (h1 : r < 256) :
    Calls Try.prog 14 #[.string ⟨#[45, 46, 95, 126, 33, 36, 38, 39, 40, 41, 42, 43, 44, 59, 61, 37, 58, 91, 93]⟩, .int .i32 r] w fun e w' => ∃ b, e = .returned (.bool b) ∧ ∃ n, w' = w.drewN n := by
  by_cases h : r < 128
  · go_enter Try.func14, Try.ntmps14
    go_wp2_with (go_at_call 15; refine (indexRune_ascii _ _ _ h0 h).mono ?_; rintro e w' ⟨rfl, rfl⟩)
    go_ret
    exact ⟨_, rfl, 0, rfl⟩
  · go_enter Try.func14, Try.ntmps14
    go_wp2_with (go_at_call 15; refine (indexRune_high _ _ _ (by omega) h1 (by decide) (by decide) hs_ascii).mono ?_; rintro e w' ⟨rfl, n, rfl⟩)
    go_ret
    exact ⟨_, rfl, _, rfl⟩

/-- some boolean -/
def RetB (e : Ending) : Prop := ∃ b, e = .returned (.bool b)
set_option maxHeartbeats 400000 in
theorem isAlnum_any (c : Int) (w : World) : Calls Try.prog 13 #[.int .u8 c] w fun e w' => RetB e ∧ w' = w := by
  go_enter Try.func13, Try.ntmps13
  go_wp2
  all_goals
    go_ret
    exact ⟨⟨_, rfl⟩, rfl⟩

set_option maxHeartbeats 800000 in
theorem isHost_any (s : ByteArray) (w : World) (hs : s.size ≤ maxLen) : Calls Try.prog 12 #[.string s] w fun e w' => ∃ b, e = .returned (.bool b) ∧ ∃ n, w' = w.drewN n := by
  unfold maxLen at hs
  go_enter Try.func12, Try.ntmps12
  go_wp2
  go_loopw [3] (fun i wr => ∃ k n : Nat, k ≤ s.size ∧ i = .int .i64 k ∧ wr = w.drewN n) (fun i _ => s.size - (intOf i).toNat)
  case atStart => exact ⟨0, 0, Nat.zero_le _, rfl, rfl⟩
  case round =>
    obtain ⟨k, n, hk, rfl, rfl⟩ := hrel
    by_cases hlt : k < s.size
    · have hc : (s[k].toNat : Int) < 256 := by have := s[k].toNat_lt; omega
      go_wp2_with fail
      refine (isAlnum_any _ _).mono ?_
      rintro e w' ⟨⟨b, rfl⟩, hw⟩
      rw [hw]
      clear hw
      cases b
      · go_wp2_with fail
        refine (containsRune_any _ _ (by omega) hc).mono ?_
        rintro e w' ⟨b2, rfl, n2, hw⟩
        rw [hw]
        clear hw
        cases b2
        · go_wp2_with fail
          go_ret
          exact ⟨_, rfl, _, rfl⟩
        · go_wp2_with fail
          go_roundw
          case rel => exact ⟨k + 1, _, by omega, by go_num, rfl⟩
          case measure => simp [intOf]; omega
      · go_wp2_with fail
        go_roundw
        case rel => exact ⟨k + 1, _, by omega, by go_num, rfl⟩
        case measure => simp [intOf]; omega
    · go_wp2_with fail
      go_ret
      exact ⟨_, rfl, _, rfl⟩
end Go.Proofs.Qxb6002405a
