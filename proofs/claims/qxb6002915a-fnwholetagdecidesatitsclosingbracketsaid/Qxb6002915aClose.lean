import Derived.Test.Qxb6002915aStep
namespace Go.Proofs.Qxb6002915a
open Go.RowKit
set_option linter.unusedVariables false

theorem h47 {L : List UInt8} (h1 : 1 < L.length) (hq : eqb L[1] 47 = true) : A L 0 1 = A L 11 2 := A_go h1 (by simp [step, hq]) (by decide)
theorem h11y {L : List UInt8} {i : Nat} (h1 : i < L.length) (hq : letter L[i] = true) : A L 11 i = A L 12 (i + 1) := A_go h1 (by simp [step, hq]) (by decide)
theorem h11n {L : List UInt8} {i : Nat} (h1 : i < L.length) (hq : letter L[i] = false) : A L 11 i = 0 := A_dead h1 (by simp [step, hq])
theorem h12y {L : List UInt8} {i : Nat} (h1 : i < L.length) (hq : nameC L[i] = true) : A L 12 i = A L 12 (i + 1) := A_go h1 (by simp [step, hq]) (by decide)
theorem nameC_split (b : UInt8) : nameC b = ((letter b || digit b) || eqb b 45) := rfl

set_option maxHeartbeats 2000000 in
set_option maxRecDepth 20000 in
theorem whole_close (L : List UInt8) (g cap : Nat) (w : World) (hL : L.length ≤ 65536) (h1 : 1 < L.length) (hcap : L.length ≤ cap) (hR : Row w g L) (hq : eqb L[1] 47 = true) :
    Calls Try.prog 18 #[.slice (some ⟨g, 0, none⟩) L.length cap] w fun e w' => e = .returned (.int .i64 (A L 0 1 : Nat)) ∧ w' = w := by
  have HR : Hid (Row w g L) := hR
  have H47 : Hid (A L 0 1 = A L 11 2) := h47 h1 hq
  have hc1 := hR 1 h1
  have hq' : ((L[1].toNat : Int) == 47) = true := hq
  clear hR hq
  by_cases h2 : 2 < L.length
  · have hc2 := HR.out 2 h2
    cases hl : letter L[2]
    · have HH : Hid (A L 0 1 = 0) := H47.out.trans (h11n h2 hl)
      go_enter Try.func18, Try.ntmps18
      go_wp2_with (go_at_call 24; refine (isLetter_any _ _).mono ?_; rintro e w' ⟨rfl, hw⟩; rw [hw, hl]; clear hw)
      go_ret
      exact ⟨ret_int (by rw [HH.out]; rfl), rfl⟩
    · have HH : Hid (A L 0 1 = A L 12 3) := H47.out.trans (h11y h2 hl)
      have h2e : ((2 : Int) == (L.length : Int)) = false := beq_eq_false_iff_ne.2 (by omega)
      go_enter Try.func18, Try.ntmps18
      go_wp2_with (go_at_call 24; refine (isLetter_any _ _).mono ?_; rintro e w' ⟨rfl, hw⟩; rw [hw, hl]; clear hw)
      go_loop [3] (fun i => ∃ k : Nat, k ≤ L.length ∧ i = .int .i64 k ∧ Hid (A L 0 1 = A L 12 k)) (fun i => L.length - (intOf i).toNat)
      case atStart => exact ⟨3, by omega, rfl, HH⟩
      case round =>
        obtain ⟨k, hk, rfl, hh⟩ := hrel
        have hend : Hid ((∀ h : k < L.length, nameC L[k] = false) → A L 0 1 = if h : skip L k < L.length then (if eqb L[skip L k] 62 = true then skip L k + 1 else 0) else 0) := fun hc => hh.out.trans (close_A hc)
        have hsle : skip L k ≤ L.length := skip_le hk
        have HR2 := HR.out
        obtain ⟨j, hj⟩ : ∃ j, j = skip L k := ⟨_, rfl⟩
        have HC : Hid (∀ w', w' = w → Calls Try.prog 26 #[.slice (some ⟨g, 0, none⟩) L.length cap, .int .i64 k] w' fun e w'' => e = .returned (.int .i64 j) ∧ w'' = w') := fun w' e => by rw [e, hj]; exact skip_any L g cap k w hk hL HR2
        rw [← hj] at hsle
        have HE : Hid ((∀ h : k < L.length, nameC L[k] = false) → A L 0 1 = if h : j < L.length then (if eqb L[j] 62 = true then j + 1 else 0) else 0) := fun hc => by
          have := hend.out hc
          simpa only [← hj] using this
        clear hend hj HR2
        by_cases hlt : k < L.length
        · have hck := HR.out k hlt
          cases hn : nameC L[k]
          · have hn2 := hn
            rw [nameC_split, Bool.or_eq_false_iff] at hn2
            have HLD : Hid ((letter L[k] || digit L[k]) = false) := hn2.1
            have h45 : ((L[k].toNat : Int) == 45) = false := hn2.2
            have HN : Hid (∀ h : k < L.length, nameC L[k] = false) := fun _ => hn
            clear hn hn2
            by_cases hjl : j < L.length
            · have hcj := HR.out j hjl
              cases hq2 : eqb L[j] 62
              · have hq3 : ((L[j].toNat : Int) == 62) = false := hq2
                have HF : Hid (A L 0 1 = 0) := by show _ = _; rw [HE.out HN.out, dif_pos hjl, if_neg (by rw [hq2]; exact Bool.false_ne_true)]
                clear hq2
                go_wp2_with (first | (go_at_call 25; refine (isAlnum_any _ _).mono ?_; rintro e w' ⟨rfl, hw⟩; rw [hw, HLD.out]; clear hw) | (go_at_call 26; refine (HC.out _ rfl).mono ?_; rintro e w' ⟨rfl, hw⟩; rw [hw]; clear hw))
                go_ret
                exact ⟨ret_int (by rw [HF.out]; rfl), rfl⟩
              · have hq3 : ((L[j].toNat : Int) == 62) = true := hq2
                have HF : Hid (A L 0 1 = j + 1) := by show _ = _; rw [HE.out HN.out, dif_pos hjl, if_pos hq2]
                clear hq2
                go_wp2_with (first | (go_at_call 25; refine (isAlnum_any _ _).mono ?_; rintro e w' ⟨rfl, hw⟩; rw [hw, HLD.out]; clear hw) | (go_at_call 26; refine (HC.out _ rfl).mono ?_; rintro e w' ⟨rfl, hw⟩; rw [hw]; clear hw))
                go_ret
                exact ⟨ret_int (by rw [HF.out]; omega), rfl⟩
            · have HF : Hid (A L 0 1 = 0) := by show _ = _; rw [HE.out HN.out, dif_neg hjl]
              go_wp2_with (first | (go_at_call 25; refine (isAlnum_any _ _).mono ?_; rintro e w' ⟨rfl, hw⟩; rw [hw, HLD.out]; clear hw) | (go_at_call 26; refine (HC.out _ rfl).mono ?_; rintro e w' ⟨rfl, hw⟩; rw [hw]; clear hw))
              go_ret
              exact ⟨ret_int (by rw [HF.out]; rfl), rfl⟩
          · have hA := hh.out.trans (h12y hlt hn)
            have HH2 : Hid (A L 0 1 = A L 12 (k + 1)) := hA
            clear hA
            cases hld : (letter L[k] || digit L[k])
            · have h45 : ((L[k].toNat : Int) == 45) = true := by
                rw [nameC_split, hld, Bool.false_or] at hn
                exact hn
              have HLD : Hid ((letter L[k] || digit L[k]) = false) := hld
              clear hn hld
              go_wp2_with (go_at_call 25; refine (isAlnum_any _ _).mono ?_; rintro e w' ⟨rfl, hw⟩; rw [hw, HLD.out]; clear hw)
              go_round
              case rel => exact ⟨k + 1, by omega, by go_num, HH2⟩
              case measure => simp [intOf]; omega
            · have HLD : Hid ((letter L[k] || digit L[k]) = true) := hld
              clear hn hld
              go_wp2_with (go_at_call 25; refine (isAlnum_any _ _).mono ?_; rintro e w' ⟨rfl, hw⟩; rw [hw, HLD.out]; clear hw)
              go_round
              case rel => exact ⟨k + 1, by omega, by go_num, HH2⟩
              case measure => simp [intOf]; omega
        · have HN : Hid (∀ h : k < L.length, nameC L[k] = false) := fun h => absurd h hlt
          by_cases hjl : j < L.length
          · have hcj := HR.out j hjl
            cases hq2 : eqb L[j] 62
            · have hq3 : ((L[j].toNat : Int) == 62) = false := hq2
              have HF : Hid (A L 0 1 = 0) := by show _ = _; rw [HE.out HN.out, dif_pos hjl, if_neg (by rw [hq2]; exact Bool.false_ne_true)]
              clear hq2
              go_wp2_with (go_at_call 26; refine (HC.out _ rfl).mono ?_; rintro e w' ⟨rfl, hw⟩; rw [hw]; clear hw)
              go_ret
              exact ⟨ret_int (by rw [HF.out]; rfl), rfl⟩
            · have hq3 : ((L[j].toNat : Int) == 62) = true := hq2
              have HF : Hid (A L 0 1 = j + 1) := by show _ = _; rw [HE.out HN.out, dif_pos hjl, if_pos hq2]
              clear hq2
              go_wp2_with (go_at_call 26; refine (HC.out _ rfl).mono ?_; rintro e w' ⟨rfl, hw⟩; rw [hw]; clear hw)
              go_ret
              exact ⟨ret_int (by rw [HF.out]; omega), rfl⟩
          · have HF : Hid (A L 0 1 = 0) := by show _ = _; rw [HE.out HN.out, dif_neg hjl]
            go_wp2_with (go_at_call 26; refine (HC.out _ rfl).mono ?_; rintro e w' ⟨rfl, hw⟩; rw [hw]; clear hw)
            go_ret
            exact ⟨ret_int (by rw [HF.out]; rfl), rfl⟩
  · have HH : Hid (A L 0 1 = 0) := H47.out.trans (A_end (by omega))
    go_enter Try.func18, Try.ntmps18
    go_wp2_with fail
    go_ret
    exact ⟨ret_int (by rw [HH.out]; rfl), rfl⟩
end Go.Proofs.Qxb6002915a
