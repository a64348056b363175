import Derived.Test.Qxb6002915aOpen
namespace Go.Proofs.Qxb6002915a
open Go.RowKit
set_option linter.unusedVariables false

set_option maxHeartbeats 400000 in
set_option maxRecDepth 20000 in
theorem whole_one (L : List UInt8) (g cap : Nat) (w : World) (h1 : L.length = 1) :
    Calls Try.prog 18 #[.slice (some ⟨g, 0, none⟩) L.length cap] w fun e w' => e = .returned (.int .i64 (A L 0 1 : Nat)) ∧ w' = w := by
  have HH : Hid (A L 0 1 = 0) := A_end (by omega)
  rw [h1]
  clear h1
  go_enter Try.func18, Try.ntmps18
  go_wp2_with fail
  go_ret
  exact ⟨ret_int (by rw [HH.out]; rfl), rfl⟩

/-- wholeTag at a line that is not empty is the automaton's answer -/
theorem whole_any (L : List UInt8) (g cap : Nat) (w : World) (hL : L.length ≤ 65536) (h1 : 1 ≤ L.length) (hcap : L.length ≤ cap) (hR : Row w g L) :
    Calls Try.prog 18 #[.slice (some ⟨g, 0, none⟩) L.length cap] w fun e w' => e = .returned (.int .i64 (A L 0 1 : Nat)) ∧ w' = w := by
  by_cases h2 : 1 < L.length
  · cases hq : eqb L[1] 47
    · exact whole_open L g cap w hL h2 hcap hR hq
    · exact whole_close L g cap w hL h2 hcap hR hq
  · exact whole_one L g cap w (by omega)

set_option maxHeartbeats 400000 in
theorem zzWhole_any (L : List UInt8) (g cap : Nat) (w : World) (hL : L.length ≤ 65536) (h1 : 1 ≤ L.length) (hcap : L.length ≤ cap) (hR : Row w g L) :
    Calls Try.prog 11 #[.slice (some ⟨g, 0, none⟩) L.length cap] w fun e w' => e = .returned (.int .i64 (A L 0 1 : Nat)) ∧ w' = w := by
  go_enter Try.func11, Try.ntmps11
  go_wp2_with (go_at_call 18; refine (whole_any L g cap _ hL h1 hcap hR).mono ?_; rintro e w' ⟨rfl, hw⟩; rw [hw]; clear hw)
  go_ret
  exact ⟨rfl, rfl⟩
end Go.Proofs.Qxb6002915a
