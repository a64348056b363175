import Derived.Test.Qxb6001690aLeaf
namespace Go.Proofs.Qxb6001690a
open Go.RowKit
set_option maxHeartbeats 400000 in
theorem bytes_ok (a : Option Addr) (n c : Nat) (name value : ByteArray) (p q : Bool) (w : World) (h : n + name.size + value.size ≤ 1048576) :
    Calls Try.prog 23 #[.slice a n c, .string name, .string value, .bool p, .bool q] w fun e w' => e = .returned (.bool true) ∧ w' = w := by
  go_enter Try.func23, Try.ntmps23
  go_wp2
  go_ret
  exact ⟨rfl, rfl⟩
set_option maxHeartbeats 400000 in
theorem bytes_no (a : Option Addr) (n c : Nat) (name value : ByteArray) (p q : Bool) (w : World) (hn : n ≤ maxLen) (h1 : name.size ≤ maxLen) (h2 : value.size ≤ maxLen) (h : 1048576 < n + name.size + value.size) :
    Calls Try.prog 23 #[.slice a n c, .string name, .string value, .bool p, .bool q] w fun e w' => e = .returned (.bool false) ∧ w' = w := by
  unfold maxLen at *
  by_cases b1 : 1048576 < n
  · go_enter Try.func23, Try.ntmps23
    go_wp2
    go_ret
    exact ⟨rfl, rfl⟩
  · by_cases b2 : 1048576 < name.size
    · go_enter Try.func23, Try.ntmps23
      go_wp2
      go_ret
      exact ⟨rfl, rfl⟩
    · by_cases b3 : 1048576 < n + name.size
      · go_enter Try.func23, Try.ntmps23
        go_wp2
        go_ret
        exact ⟨rfl, rfl⟩
      · by_cases b4 : 1048576 < value.size
        · go_enter Try.func23, Try.ntmps23
          go_wp2
          go_ret
          exact ⟨rfl, rfl⟩
        · go_enter Try.func23, Try.ntmps23
          go_wp2
          go_ret
          exact ⟨rfl, rfl⟩
set_option maxHeartbeats 400000 in
theorem bytesBytes_any (a : Option Addr) (n c : Nat) (w : World) (h : n ≤ 1048576) :
    Calls Try.prog 24 #[.int .i64 0, .slice a n c] w fun e w' => e = .returned (.int .i64 n) ∧ w' = w := by
  go_enter Try.func24, Try.ntmps24
  go_wp2
  go_ret
  exact ⟨ret_int (by omega), rfl⟩
set_option maxHeartbeats 400000 in
theorem strBytes_any (t : Int) (s : ByteArray) (w : World) (h0 : 0 ≤ t) (h : t + s.size ≤ 1048576) :
    Calls Try.prog 16 #[.int .i64 t, .string s] w fun e w' => e = .returned (.int .i64 (t + s.size)) ∧ w' = w := by
  go_enter Try.func16, Try.ntmps16
  go_wp2
  go_ret
  exact ⟨rfl, rfl⟩
end Go.Proofs.Qxb6001690a
