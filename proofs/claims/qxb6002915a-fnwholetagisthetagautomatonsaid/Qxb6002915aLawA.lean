import Derived.Test.Qxb6002915aWhole
import Derived.Test.Qxb6002915aClone
namespace Go.Proofs.Qxb6002915a
open Go.RowKit
set_option linter.unusedVariables false

set_option maxHeartbeats 400000 in
/-- the first law's function where she reads nothing -/
theorem lawA_off (a : Option Addr) (n c : Nat) (w : World) (hn : n ≤ maxLen) (h : n = 0 ∨ 65536 < n) :
    Calls Try.prog 4 #[.slice a n c] w fun e w' => e = .returned (.bool true) ∧ Below w.heap.size w w' := by
  have hm := hn
  unfold maxLen at hn
  rcases h with h | h
  · subst h
    go_enter Try.func4, Try.ntmps4
    go_wp2_with (go_at_call 10; refine (bytes10 _ _ _ _ hm).mono ?_; rintro e w' ⟨rfl, hw⟩; rw [hw]; clear hw)
    go_ret
    exact ⟨rfl, Below.refl _ _⟩
  · by_cases hb : n ≤ 1048576
    · have HD : Hid (decide (n ≤ 1048576) = true) := decide_eq_true hb
      go_enter Try.func4, Try.ntmps4
      go_wp2_with (go_at_call 10; refine (bytes10 _ _ _ _ hm).mono ?_; rintro e w' ⟨rfl, hw⟩; rw [hw, HD.out]; clear hw)
      go_ret
      exact ⟨rfl, Below.refl _ _⟩
    · have HD : Hid (decide (n ≤ 1048576) = false) := decide_eq_false hb
      go_enter Try.func4, Try.ntmps4
      go_wp2_with (go_at_call 10; refine (bytes10 _ _ _ _ hm).mono ?_; rintro e w' ⟨rfl, hw⟩; rw [hw, HD.out]; clear hw)
      go_ret
      exact ⟨rfl, Below.refl _ _⟩

set_option maxHeartbeats 400000 in
theorem lawA_on (l : List UInt8) (b off cap : Nat) (w : World) (h0 : 1 ≤ l.length) (hl : l.length ≤ 65536) (hcell : ∀ j (h : j < l.length), w.cell? ⟨b, off + j, none⟩ = some (.int .u8 (l[j].toNat : Int))) :
    Calls Try.prog 4 #[.slice (some ⟨b, off, none⟩) l.length cap] w fun e w' => e = .returned (.bool true) ∧ Below w.heap.size w w' := by
  have HC : Hid (∀ j (h : j < l.length), w.cell? ⟨b, off + j, none⟩ = some (.int .u8 (l[j].toNat : Int))) := hcell
  have HD : Hid (decide (l.length ≤ 1048576) = true) := decide_eq_true (by omega)
  have hm : l.length ≤ maxLen := by unfold maxLen; omega
  clear hcell
  go_enter Try.func4, Try.ntmps4
  go_wp2_with (first | (go_at_call 10; refine (bytes10 _ _ _ _ hm).mono ?_; rintro e w' ⟨rfl, hw⟩; rw [hw, HD.out]; clear hw) | (go_at_call 7; refine (clone_any l b off cap _ (by omega) HC.out).mono ?_; rintro e w1 ⟨rfl, hR, hB⟩; have HR : Hid (Row w1 w.heap.size l) := hR; clear hR) | (go_at_call 11; refine (zzWhole_any l _ _ _ hl h0 (Nat.le_refl _) HR.out).mono ?_; rintro e w' ⟨rfl, hw⟩; rw [hw]; clear hw) | (go_at_call 12; refine (model_any l _ _ _ hl h0 HR.out).mono ?_; rintro e w' ⟨rfl, hw⟩; rw [hw]; clear hw))
  go_ret
  exact ⟨ret_bool (by simp), hB⟩
end Go.Proofs.Qxb6002915a
