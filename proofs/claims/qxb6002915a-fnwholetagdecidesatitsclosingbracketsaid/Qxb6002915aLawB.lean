import Derived.Test.Qxb6002915aWhole
import Derived.Test.Qxb6002915aClone
namespace Go.Proofs.Qxb6002915a
open Go.RowKit
set_option linter.unusedVariables false

set_option maxHeartbeats 400000 in
/-- the second law's function where she reads nothing -/
theorem lawB_off (a : Option Addr) (n c : Nat) (w : World) (hn : n ≤ maxLen) (h : n = 0 ∨ 4096 < n) :
    Calls Try.prog 5 #[.slice a n c] w fun e w' => e = .returned (.bool true) ∧ Below w.heap.size w w' := by
  have hm := hn
  unfold maxLen at hn
  rcases h with h | h
  · subst h
    go_enter Try.func5, Try.ntmps5
    go_wp2_with (go_at_call 13; refine (bytes13 _ _ _ _ hm).mono ?_; rintro e w' ⟨rfl, hw⟩; rw [hw]; clear hw)
    go_ret
    exact ⟨rfl, Below.refl _ _⟩
  · by_cases hb : n ≤ 1048576
    · have HD : Hid (decide (n ≤ 1048576) = true) := decide_eq_true hb
      go_enter Try.func5, Try.ntmps5
      go_wp2_with (go_at_call 13; refine (bytes13 _ _ _ _ hm).mono ?_; rintro e w' ⟨rfl, hw⟩; rw [hw, HD.out]; clear hw)
      go_ret
      exact ⟨rfl, Below.refl _ _⟩
    · have HD : Hid (decide (n ≤ 1048576) = false) := decide_eq_false hb
      go_enter Try.func5, Try.ntmps5
      go_wp2_with (go_at_call 13; refine (bytes13 _ _ _ _ hm).mono ?_; rintro e w' ⟨rfl, hw⟩; rw [hw, HD.out]; clear hw)
      go_ret
      exact ⟨rfl, Below.refl _ _⟩

theorem row_take {w : World} {g k : Nat} {L : List UInt8} (h : Row w g L) : Row w g (L.take k) := fun j hj => by
  have h1 : j < L.length := by simp at hj; omega
  rw [h j h1]
  simp
/-- the automaton at a beginning of the line -/
theorem A_take (L : List UInt8) (k : Nat) (h1 : 1 ≤ k) : A (L.take k) 0 1 = if A L 0 1 ≤ k then A L 0 1 else 0 := by
  unfold A
  rw [List.drop_take, run_take]
  have : 1 + (k - 1) = k := by omega
  rw [this]
theorem zzWhole_take (L : List UInt8) (g k : Nat) (w : World) (hL : L.length ≤ 65536) (h1 : 1 ≤ k) (hk : k ≤ L.length) (hR : Row w g L) :
    Calls Try.prog 11 #[.slice (some ⟨g, 0, none⟩) k L.length] w fun e w' => e = .returned (.int .i64 ((if A L 0 1 ≤ k then A L 0 1 else 0 : Nat) : Int)) ∧ w' = w := by
  have hl : (L.take k).length = k := by simp; omega
  have := zzWhole_any (L.take k) g L.length w (by omega) (by omega) (by omega) (row_take hR)
  rw [hl, A_take L k h1] at this
  exact this

set_option maxHeartbeats 400000 in
theorem lawB_on (l : List UInt8) (b off cap : Nat) (w : World) (h0 : 1 ≤ l.length) (hl : l.length ≤ 4096) (hcell : ∀ j (h : j < l.length), w.cell? ⟨b, off + j, none⟩ = some (.int .u8 (l[j].toNat : Int))) :
    Calls Try.prog 5 #[.slice (some ⟨b, off, none⟩) l.length cap] w fun e w' => e = .returned (.bool true) ∧ Below w.heap.size w w' := by
  have HC : Hid (∀ j (h : j < l.length), w.cell? ⟨b, off + j, none⟩ = some (.int .u8 (l[j].toNat : Int))) := hcell
  have HD : Hid (decide (l.length ≤ 1048576) = true) := decide_eq_true (by omega)
  have hm : l.length ≤ maxLen := by unfold maxLen; omega
  have hN : A l 0 1 ≤ l.length := by
    rcases run_bounds (l.drop 1) 0 1 with h | ⟨_, h⟩
    · unfold A; omega
    · rw [List.length_drop] at h; unfold A; omega
  obtain ⟨N, hNe⟩ : ∃ N, N = A l 0 1 := ⟨_, rfl⟩
  have HW : Hid (∀ g w', Row w' g l → Calls Try.prog 11 #[.slice (some ⟨g, 0, none⟩) l.length l.length] w' fun e w'' => e = .returned (.int .i64 (N : Int)) ∧ w'' = w') := fun g w' hR => by
    rw [hNe]; exact zzWhole_any l g _ w' (by omega) h0 (Nat.le_refl _) hR
  have HM : Hid (∀ g w', Row w' g l → Calls Try.prog 12 #[.slice (some ⟨g, 0, none⟩) l.length l.length] w' fun e w'' => e = .returned (.int .i64 (N : Int)) ∧ w'' = w') := fun g w' hR => by
    rw [hNe]; exact model_any l g _ w' (by omega) h0 hR
  have HT : Hid (∀ k g w', 1 ≤ k → k ≤ l.length → Row w' g l → Calls Try.prog 11 #[.slice (some ⟨g, 0, none⟩) k l.length] w' fun e w'' => e = .returned (.int .i64 ((if N ≤ k then N else 0 : Nat) : Int)) ∧ w'' = w') := fun k g w' h1 hk hR => by
    rw [hNe]; exact zzWhole_take l g k w' (by omega) h1 hk hR
  rw [← hNe] at hN
  clear hcell hNe
  go_enter Try.func5, Try.ntmps5
  go_wp2_with (first | (go_at_call 13; refine (bytes13 _ _ _ _ hm).mono ?_; rintro e w' ⟨rfl, hw⟩; rw [hw, HD.out]; clear hw) | (go_at_call 7; refine (clone_any l b off cap _ (by omega) HC.out).mono ?_; rintro e w1 ⟨rfl, hR, hB⟩; have HR : Hid (Row w1 w.heap.size l) := hR; clear hR) | (go_at_call 11; refine (HW.out _ _ HR.out).mono ?_; rintro e w' ⟨rfl, hw⟩; rw [hw]; clear hw) | (go_at_call 12; refine (HM.out _ _ HR.out).mono ?_; rintro e w' ⟨rfl, hw⟩; rw [hw]; clear hw))
  go_loop [4, 5] (fun i v => ∃ k : Nat, 1 ≤ k ∧ k ≤ l.length + 1 ∧ i = .int .i64 k) (fun i v => l.length + 1 - (intOf i).toNat)
  case atStart => exact ⟨1, by omega, by omega, rfl⟩
  case round =>
    obtain ⟨k, h1, hk, rfl⟩ := hrel
    by_cases hlt : k ≤ l.length
    · by_cases hn : k < N
      · have HT2 : Hid (∀ w', Row w' w.heap.size l → Calls Try.prog 11 #[.slice (some ⟨w.heap.size, 0, none⟩) k l.length] w' fun e w'' => e = .returned (.int .i64 0) ∧ w'' = w') := fun w' hR => by
          have := HT.out k w.heap.size w' h1 hlt hR
          rwa [if_neg (by omega)] at this
        go_wp2_with (go_at_call 11; refine (HT2.out _ HR.out).mono ?_; rintro e w' ⟨rfl, hw⟩; rw [hw]; clear hw)
        go_round
        case rel => exact ⟨k + 1, by omega, by omega, by go_num⟩
        case measure => simp [intOf]; omega
      · have HT2 : Hid (∀ w', Row w' w.heap.size l → Calls Try.prog 11 #[.slice (some ⟨w.heap.size, 0, none⟩) k l.length] w' fun e w'' => e = .returned (.int .i64 N) ∧ w'' = w') := fun w' hR => by
          have := HT.out k w.heap.size w' h1 hlt hR
          rwa [if_pos (by omega)] at this
        go_wp2_with (go_at_call 11; refine (HT2.out _ HR.out).mono ?_; rintro e w' ⟨rfl, hw⟩; rw [hw]; clear hw)
        go_round
        case rel => exact ⟨k + 1, by omega, by omega, by go_num⟩
        case measure => simp [intOf]; omega
    · go_wp2_with fail
      go_ret
      exact ⟨rfl, hB⟩
end Go.Proofs.Qxb6002915a
