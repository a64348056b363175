import Derived.Test.Qxb6001690aRound
import Derived.Test.Qxb6001690aSizes
import Derived.Test.Qxb6001690aPiece
import Derived.BigQuiet
namespace Go.Proofs.Qxb6001690a
open Go.RowKit

set_option maxHeartbeats 400000 in
theorem zzAppend_any (v : Value) (l : List UInt8) (name value eol : ByteArray) (lines : Bool) (w : World) (hown : Own w v l) (hb : l.length + name.size + value.size ≤ 1048576) (he : eol.size ≤ 2) :
    Calls Try.prog 27 #[v, .string name, .string value, .string eol, .bool lines] w fun e w' => ∃ v', e = .returned v' ∧ Own w' v' (l ++ encAll (bl eol) lines (bl name) (bl value)) ∧ Grows w w' v v' := by
  go_enter Try.func27, Try.ntmps27
  go_wp2_with (go_at_call 81; refine (appendField_any v l name value eol lines _ hown hb he).mono ?_; rintro e w' ⟨v', rfl, h1, h2⟩)
  go_ret
  exact ⟨_, rfl, h1, h2⟩

set_option maxHeartbeats 400000 in
theorem law_big (a : Option Addr) (n c : Nat) (name value : ByteArray) (p q : Bool) (w : World) (hn : n ≤ maxLen) (h1 : name.size ≤ maxLen) (h2 : value.size ≤ maxLen) (h : 1048576 < n + name.size + value.size) :
    Calls Try.prog 5 #[.slice a n c, .string name, .string value, .bool p, .bool q] w fun e w' => e = .returned (.bool true) ∧ Below w.heap.size w w' := by
  go_enter Try.func5, Try.ntmps5
  go_wp2_with (go_at_call 23; refine (bytes_no _ _ _ _ _ _ _ _ hn h1 h2 h).mono ?_; rintro e w' ⟨rfl, rfl⟩)
  go_ret
  exact ⟨rfl, Below.refl _ _⟩

set_option maxHeartbeats 400000 in
theorem law_bytes (a : Option Addr) (n c : Nat) (name value : ByteArray) (p q : Bool) (w : World) (hb : n + name.size + value.size ≤ 1048576) (h : (hasB (bl name) 10 || (hasB (bl name) 13 || hasB (bl value) 13)) = true) :
    Calls Try.prog 5 #[.slice a n c, .string name, .string value, .bool p, .bool q] w fun e w' => e = .returned (.bool true) ∧ Below w.heap.size w w' := by
  have h0 : (0 : Int) ≤ n := by omega
  cases h1 : hasB (bl name) 10
  · cases h2 : hasB (bl name) 13
    · have h3 : hasB (bl value) 13 = true := by simpa [h1, h2] using h
      clear h
      go_enter Try.func5, Try.ntmps5
      go_wp2_with (first | (go_at_call 23; refine (bytes_ok _ _ _ _ _ _ _ _ hb).mono ?_; rintro e w' ⟨rfl, rfl⟩) | (go_at_call 24; refine (bytesBytes_any _ _ _ _ (by omega)).mono ?_; rintro e w' ⟨rfl, rfl⟩) | (go_at_call 16; refine (strBytes_any _ _ _ (by omega) (by omega)).mono ?_; rintro e w' ⟨rfl, rfl⟩) | (go_at_call 25; refine (hasByte_any _ _ _ (by unfold maxLen; omega)).mono ?_; rintro e w' ⟨rfl, rfl⟩; first | rw [h1] | rw [h2] | rw [h3]))
      go_ret
      exact ⟨rfl, Below.refl _ _⟩
    · clear h
      go_enter Try.func5, Try.ntmps5
      go_wp2_with (first | (go_at_call 23; refine (bytes_ok _ _ _ _ _ _ _ _ hb).mono ?_; rintro e w' ⟨rfl, rfl⟩) | (go_at_call 24; refine (bytesBytes_any _ _ _ _ (by omega)).mono ?_; rintro e w' ⟨rfl, rfl⟩) | (go_at_call 16; refine (strBytes_any _ _ _ (by omega) (by omega)).mono ?_; rintro e w' ⟨rfl, rfl⟩) | (go_at_call 25; refine (hasByte_any _ _ _ (by unfold maxLen; omega)).mono ?_; rintro e w' ⟨rfl, rfl⟩; first | rw [h1] | rw [h2]))
      go_ret
      exact ⟨rfl, Below.refl _ _⟩
  · clear h
    go_enter Try.func5, Try.ntmps5
    go_wp2_with (first | (go_at_call 23; refine (bytes_ok _ _ _ _ _ _ _ _ hb).mono ?_; rintro e w' ⟨rfl, rfl⟩) | (go_at_call 24; refine (bytesBytes_any _ _ _ _ (by omega)).mono ?_; rintro e w' ⟨rfl, rfl⟩) | (go_at_call 16; refine (strBytes_any _ _ _ (by omega) (by omega)).mono ?_; rintro e w' ⟨rfl, rfl⟩) | (go_at_call 25; refine (hasByte_any _ _ _ (by unfold maxLen; omega)).mono ?_; rintro e w' ⟨rfl, rfl⟩; rw [h1]))
    go_ret
    exact ⟨rfl, Below.refl _ _⟩

end Go.Proofs.Qxb6001690a
