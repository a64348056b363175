import Derived.Test.Qxb6002915aClose
import Derived.Deep.CutBlock
import Derived.Deep.DeepCutAuto
import Derived.Deep.LoopGhost
namespace Go.Proofs.Qxb6002915a
open Go.RowKit
set_option linter.unusedVariables false

theorem h0y {L : List UInt8} (h1 : 1 < L.length) (hq : eqb L[1] 47 = false) (hl : letter L[1] = true) : A L 0 1 = A L 1 2 := A_go h1 (by simp [step, hq, hl]) (by decide)
theorem h0n {L : List UInt8} (h1 : 1 < L.length) (hq : eqb L[1] 47 = false) (hl : letter L[1] = false) : A L 0 1 = 0 := A_dead h1 (by simp [step, hq, hl])
theorem h1y {L : List UInt8} {i : Nat} (h1 : i < L.length) (hq : nameC L[i] = true) : A L 1 i = A L 1 (i + 1) := A_go h1 (by simp [step, hq]) (by decide)

theorem letter_47 {b : UInt8} (h : eqb b 47 = true) : letter b = false := by
  cases e : letter b
  · rfl
  · rw [letter_excl e (.inl (by decide))] at h; cases h
theorem attrC_split (b : UInt8) : attrC b = ((letter b || digit b) || (eqb b 95 || eqb b 46 || eqb b 58 || eqb b 45)) := by
  unfold attrC
  cases letter b <;> cases digit b <;> cases eqb b 95 <;> cases eqb b 46 <;> cases eqb b 58 <;> cases eqb b 45 <;> rfl
theorem beq_eqb (b c : UInt8) : (c == b) = eqb b (c.toNat : Int) := by
  unfold eqb
  rw [Bool.eq_iff_iff]
  simp [← UInt8.toNat_inj]
  omega
/-- the sign of strings.IndexByte: is the byte among those? -/
theorem idx_sign : ∀ (l : List UInt8) (c : UInt8), 0 ≤ Lib.indexByte l c ↔ c ∈ l
  | [], c => by simp [Lib.indexByte]
  | b :: t, c => by
    have ih := idx_sign t c
    have hge := Lib.indexByte_ge t c
    unfold Lib.indexByte
    by_cases h : b = c
    · simp [h]
    · have h' : (b == c) = false := by simpa using h
      rw [h']
      by_cases h1 : Lib.indexByte t c = -1
      · have : ¬ c ∈ t := fun hm => by have := ih.2 hm; omega
        have hc : c ≠ b := fun e => h e.symm
        simp [h1, this, hc]
      · have h2 : (Lib.indexByte t c == -1) = false := by simpa using h1
        have h3 : c ∈ t := ih.1 (by omega)
        simp [h2, h3]
        omega
theorem toNat_back (b : UInt8) : ((b.toNat : Int)).toNat.toUInt8 = b := by
  simp
theorem mem_attr (b : UInt8) : 0 ≤ Lib.indexByte (⟨#[95, 46, 58, 45]⟩ : ByteArray).data.toList ((b.toNat : Int)).toNat.toUInt8 ↔ (eqb b 95 || eqb b 46 || eqb b 58 || eqb b 45) = true := by
  rw [idx_sign, toNat_back]
  unfold eqb
  simp [← UInt8.toNat_inj]
  omega
theorem mem_unq (b : UInt8) : Lib.indexByte (⟨#[34, 39, 61, 60, 62, 96]⟩ : ByteArray).data.toList ((b.toNat : Int)).toNat.toUInt8 < 0 ↔ (!eqb b 34 && !eqb b 39 && !eqb b 61 && !eqb b 60 && !eqb b 62 && !eqb b 96) = true := by
  have := idx_sign (⟨#[34, 39, 61, 60, 62, 96]⟩ : ByteArray).data.toList b
  rw [toNat_back]
  unfold eqb
  simp [← UInt8.toNat_inj] at this ⊢
  omega
theorem h4y {L : List UInt8} {i : Nat} (h1 : i < L.length) (hq : attrC L[i] = true) : A L 4 i = A L 4 (i + 1) := A_go h1 (by simp [step, hq]) (by decide)
theorem h9y {L : List UInt8} {i : Nat} (h1 : i < L.length) (hq : unq L[i] = true) : A L 9 i = A L 9 (i + 1) := A_go h1 (by simp [step, hq]) (by decide)

theorem idx_cases : ∀ (l : List UInt8) (c : UInt8), (Lib.indexByte l c = -1 ∧ ∀ j (h : j < l.length), l[j] ≠ c) ∨ ∃ e : Nat, ∃ h : e < l.length, Lib.indexByte l c = (e : Int) ∧ l[e] = c ∧ ∀ j (h : j < l.length), j < e → l[j] ≠ c
  | [], c => .inl ⟨rfl, fun j h => absurd h (by simp)⟩
  | b :: t, c => by
    by_cases hb : b = c
    · exact .inr ⟨0, by simp, by simp [Lib.indexByte, hb], hb, fun j h hj => absurd hj (by omega)⟩
    · have hb' : (b == c) = false := by simpa using hb
      rcases idx_cases t c with ⟨h1, h2⟩ | ⟨e, he, h1, h2, h3⟩
      · refine .inl ⟨by simp [Lib.indexByte, hb', h1], fun j h => ?_⟩
        match j, h with
        | 0, _ => exact hb
        | j + 1, h => exact h2 j (by simpa using h)
      · refine .inr ⟨e + 1, by simpa using he, ?_, h2, fun j h hj => ?_⟩
        · have : ((e : Int) == -1) = false := by simp
          simp [Lib.indexByte, hb', h1, this]
        · match j, h with
          | 0, _ => exact hb
          | j + 1, h => exact h3 j (by simpa using h) (by omega)
theorem eqb_ne {b c : UInt8} {q : Int} (hc : eqb c q = true) (h : b ≠ c) : eqb b q = false := by
  cases e : eqb b q
  · rfl
  · unfold eqb at e hc
    rw [beq_iff_eq] at e hc
    exact absurd (UInt8.toNat_inj.1 (by omega)) h
/-- a quoted value: its end, or none -/
theorem quote {L : List UInt8} {st k2 : Nat} {q : Int} (hs : ∀ b, eqb b q = false → step st b = (st, false)) (hs2 : ∀ b, eqb b q = true → step st b = (10, false)) (h14 : st ≠ 14) (hk2 : k2 < L.length) (hb : eqb L[k2] q = true) :
    (Lib.indexByte (L.drop (k2 + 1)) L[k2] = -1 ∧ A L st (k2 + 1) = 0) ∨ ∃ e : Nat, Lib.indexByte (L.drop (k2 + 1)) L[k2] = (e : Int) ∧ k2 + e + 2 ≤ L.length ∧ A L st (k2 + 1) = aft L (k2 + e + 2) := by
  rcases idx_cases (L.drop (k2 + 1)) L[k2] with ⟨h1, h2⟩ | ⟨e, he, h1, h2, h3⟩
  · refine .inl ⟨h1, q_none hs h14 _ (k2 + 1) rfl (fun j h hj => ?_)⟩
    have := h2 (j - (k2 + 1)) (by rw [List.length_drop]; omega)
    rw [List.getElem_drop] at this
    exact eqb_ne hb (by simpa only [show k2 + 1 + (j - (k2 + 1)) = j by omega] using this)
  · rw [List.length_drop] at he
    rw [List.getElem_drop] at h2
    refine .inr ⟨e, h1, by omega, ?_⟩
    rw [q_hit hs hs2 h14 e (k2 + 1) (by omega) (fun j h hj1 hj2 => ?_) (by rw [h2]; exact hb), end10, show k2 + 1 + e + 1 = k2 + e + 2 by omega]
    have := h3 (j - (k2 + 1)) (by rw [List.length_drop]; omega) (by omega)
    rw [List.getElem_drop] at this
    exact eqb_ne hb (by simpa only [show k2 + 1 + (j - (k2 + 1)) = j by omega] using this)
theorem bytesOf_map (l : List UInt8) : Lib.bytesOf (l.map fun b => (b.toNat : Int)) = l := by
  unfold Lib.bytesOf
  rw [List.map_map]
  conv => rhs; rw [← List.map_id l]
  apply List.map_congr_left
  intro b _
  simp
/-- bytes.IndexByte over what stands behind place k2 -/
theorem rest_index (L : List UInt8) (g cap k2 : Nat) (w : World) (hk2 : k2 < L.length) (hR : Row w g L) (o : Nat) (ho : o = k2 + 1 ∨ L.length = k2 + 1) (c : Nat) :
    Calls Try.prog 28 #[.slice (some ⟨g, o, none⟩) (L.length - (k2 + 1)) c, .int .u8 (L[k2].toNat : Int)] w fun e w' => e = .returned (.int .i64 (Lib.indexByte (L.drop (k2 + 1)) L[k2])) ∧ w' = w := by
  have h := bytesIndexByte_any g o (L.length - (k2 + 1)) c ((L.drop (k2 + 1)).map fun b => (b.toNat : Int)) (L[k2].toNat : Int) w (by simp) (fun i hi => by
    have ho' : o = k2 + 1 := by omega
    subst ho'
    rw [hR (k2 + 1 + i) (by omega)]
    have h1 : i < (L.drop (k2 + 1)).length := by rw [List.length_drop]; exact hi
    simp [List.getD, List.getElem?_drop, show k2 + 1 + i < L.length by omega])
  rw [bytesOf_map, toNat_back] at h
  exact h
theorem unq_split (b : UInt8) : unq b = (decide (32 < b.toNat) && (!eqb b 34 && !eqb b 39 && !eqb b 61 && !eqb b 60 && !eqb b 62 && !eqb b 96)) := by
  unfold unq
  cases decide (32 < b.toNat) <;> cases eqb b 34 <;> cases eqb b 39 <;> cases eqb b 61 <;> cases eqb b 60 <;> cases eqb b 62 <;> cases eqb b 96 <;> rfl

set_option maxHeartbeats 20000000 in
set_option maxRecDepth 20000 in
theorem whole_open (L : List UInt8) (g cap : Nat) (w : World) (hL : L.length ≤ 65536) (h1 : 1 < L.length) (hcap : L.length ≤ cap) (hR : Row w g L) (hq : eqb L[1] 47 = false) :
    Calls Try.prog 18 #[.slice (some ⟨g, 0, none⟩) L.length cap] w fun e w' => e = .returned (.int .i64 (A L 0 1 : Nat)) ∧ w' = w := by
  have HR : Hid (Row w g L) := hR
  have HQ : Hid (eqb L[1] 47 = false) := hq
  have hc1 := hR 1 h1
  have hq' : ((L[1].toNat : Int) == 47) = false := hq
  have h1e : ((1 : Int) == (L.length : Int)) = false := beq_eq_false_iff_ne.2 (by omega)
  clear hR hq
  cases hl : letter L[1]
  · have HH : Hid (A L 0 1 = 0) := h0n h1 HQ.out hl
    go_enter Try.func18, Try.ntmps18
    go_wp2_with (go_at_call 24; refine (isLetter_any _ _).mono ?_; rintro e w' ⟨rfl, hw⟩; rw [hw, hl]; clear hw)
    go_ret
    exact ⟨ret_int (by rw [HH.out]; rfl), rfl⟩
  · have HH : Hid (A L 0 1 = A L 1 2) := h0y h1 HQ.out hl
    go_enter Try.func18, Try.ntmps18
    go_upto_block 0 with (go_at_call 24; refine (isLetter_any _ _).mono ?_; rintro e w' ⟨rfl, hw⟩; rw [hw, hl]; clear hw)
    go_cut [3] (fun v wx => w = wx ∧ ∃ k : Nat, k ≤ L.length ∧ v = .int .i64 k ∧ Hid (A L 0 1 = aft L k))
    case first =>
      as_aux_lemma =>
        go_wp2_with fail
        go_loop [3] (fun i => ∃ k : Nat, k ≤ L.length ∧ i = .int .i64 k ∧ Hid (A L 0 1 = A L 1 k)) (fun i => L.length - (intOf i).toNat)
        case atStart => exact ⟨2, by omega, rfl, HH⟩
        case round =>
          obtain ⟨k, hk, rfl, hh⟩ := hrel
          by_cases hlt : k < L.length
          · have hck := HR.out k hlt
            cases hn : nameC L[k]
            · have hn2 := hn
              rw [nameC_split, Bool.or_eq_false_iff] at hn2
              have HLD : Hid ((letter L[k] || digit L[k]) = false) := hn2.1
              have h45 : ((L[k].toNat : Int) == 45) = false := hn2.2
              have HN : Hid (A L 0 1 = aft L k) := hh.out.trans (end1 (fun _ => hn))
              clear hn hn2
              go_wp2_with (go_at_call 25; refine (isAlnum_any _ _).mono ?_; rintro e w' ⟨rfl, hw⟩; rw [hw, HLD.out]; clear hw)
              go_meet
              case rel => exact ⟨rfl, k, hk, rfl, HN⟩
            · have hA := hh.out.trans (h1y hlt hn)
              have HH2 : Hid (A L 0 1 = A L 1 (k + 1)) := hA
              clear hA
              cases hld : (letter L[k] || digit L[k])
              · have h45 : ((L[k].toNat : Int) == 45) = true := by
                  rw [nameC_split, hld, Bool.false_or] at hn
                  exact hn
                have HLD : Hid ((letter L[k] || digit L[k]) = false) := hld
                clear hn hld
                go_wp2_with (go_at_call 25; refine (isAlnum_any _ _).mono ?_; rintro e w' ⟨rfl, hw⟩; rw [hw, HLD.out]; clear hw)
                go_round
                case rel => exact ⟨k + 1, by omega, by go_num, HH2⟩
                case measure => simp [intOf]; omega
              · have HLD : Hid ((letter L[k] || digit L[k]) = true) := hld
                clear hn hld
                go_wp2_with (go_at_call 25; refine (isAlnum_any _ _).mono ?_; rintro e w' ⟨rfl, hw⟩; rw [hw, HLD.out]; clear hw)
                go_round
                case rel => exact ⟨k + 1, by omega, by go_num, HH2⟩
                case measure => simp [intOf]; omega
          · have HN : Hid (A L 0 1 = aft L k) := hh.out.trans (end1 (fun h => absurd h hlt))
            go_wp2_with fail
            go_meet
            case rel => exact ⟨rfl, k, hk, rfl, HN⟩
    case rest =>
      obtain ⟨rfl, k0, hk0, rfl, HK⟩ := hcut
      have HR' : Hid (Row w g L) := HR.out
      clear hq' h1e hc1 hl HH HQ
      go_wp2_with fail
      go_loopg [3] (L.length - k0) (fun n v wr => w = wr ∧ ∃ i : Nat, i ≤ L.length ∧ L.length - i ≤ n ∧ v = .int .i64 i ∧ Hid (A L 0 1 = aft L i))
      case atStart => exact ⟨rfl, k0, hk0, Nat.le_refl _, rfl, HK⟩
      case round =>
        obtain ⟨rfl, i, hi, hgk, rfl, HI⟩ := hrel
        obtain ⟨j, hj⟩ : ∃ j, j = skip L i := ⟨_, rfl⟩
        have HC : Hid (∀ w', w' = w → Calls Try.prog 26 #[.slice (some ⟨g, 0, none⟩) L.length cap, .int .i64 i] w' fun e w'' => e = .returned (.int .i64 j) ∧ w'' = w') := fun w' e => by rw [e, hj]; exact skip_any L g cap i w hi hL HR'.out
        have hij : i ≤ j := by rw [hj]; exact skip_ge L i
        have hjL : j ≤ L.length := by rw [hj]; exact skip_le hi
        have HJ : Hid (j = skip L i) := hj
        clear hj HK
        go_upto_block 4 with (go_at_call 26; refine (HC.out _ rfl).mono ?_; rintro e w' ⟨rfl, hw⟩; rw [hw]; clear hw)
        go_cut [5] (fun v wx => w = wx ∧ v = .int .i64 j ∧ j < L.length ∧ i < j ∧ Hid (A L 0 1 = A L 4 (j + 1)))
        case first =>
          as_aux_lemma =>
            by_cases hjl : j < L.length
            · have hcj := HR'.out j hjl
              cases h62 : eqb L[j] 62
              · have h62' : ((L[j].toNat : Int) == 62) = false := h62
                cases h47 : eqb L[j] 47
                · have h47' : ((L[j].toNat : Int) == 47) = false := h47
                  by_cases hji : j = i
                  · have HA : Hid (A L 0 1 = 0) := HI.out.trans (by have := HJ.out; subst this; exact aft_same hjl h62 h47 hji)
                    have hbe : ((j : Int) == (i : Int)) = true := beq_iff_eq.2 (by omega)
                    clear h62 h47
                    have HJI : Hid (j = i) := hji
                    clear hji
                    go_wp2_with fail
                    all_goals
                      go_ret
                      exact ⟨ret_int (by rw [HA.out]; rfl), rfl⟩
                  · have hbe : ((j : Int) == (i : Int)) = false := beq_eq_false_iff_ne.2 (by omega)
                    have hbl : ((j : Int) == (L.length : Int)) = false := beq_eq_false_iff_ne.2 (by omega)
                    cases hS : attrS L[j]
                    · have HA : Hid (A L 0 1 = 0) := HI.out.trans (by have := HJ.out; subst this; exact aft_not hjl h62 h47 hS)
                      have hS2 := hS
                      unfold attrS at hS2
                      rw [Bool.or_eq_false_iff, Bool.or_eq_false_iff] at hS2
                      have HLt : Hid (letter L[j] = false) := hS2.1.1
                      have h95 : ((L[j].toNat : Int) == 95) = false := hS2.1.2
                      have h58 : ((L[j].toNat : Int) == 58) = false := hS2.2
                      clear h62 h47 hS hS2 hji
                      go_wp2_with (go_at_call 24; refine (isLetter_any _ _).mono ?_; rintro e w' ⟨rfl, hw⟩; rw [hw, HLt.out]; clear hw)
                      all_goals
                        go_ret
                        exact ⟨ret_int (by rw [HA.out]; rfl), rfl⟩
                    · have HA : Hid (A L 0 1 = A L 4 (j + 1)) := HI.out.trans (by have := HJ.out; subst this; exact aft_attr hjl hji hS)
                      have hlt2 : i < j := by omega
                      clear h62 h47 hji
                      cases hlt : letter L[j]
                      · have HLt : Hid (letter L[j] = false) := hlt
                        cases h95 : eqb L[j] 95
                        · have h95' : ((L[j].toNat : Int) == 95) = false := h95
                          have h58 : ((L[j].toNat : Int) == 58) = true := by
                            unfold attrS at hS
                            rw [hlt, h95] at hS
                            exact hS
                          clear hlt h95 hS
                          go_wp2_with (go_at_call 24; refine (isLetter_any _ _).mono ?_; rintro e w' ⟨rfl, hw⟩; rw [hw, HLt.out]; clear hw)
                          all_goals
                            go_meet
                            case rel => exact ⟨rfl, rfl, hjl, hlt2, HA⟩
                        · have h95' : ((L[j].toNat : Int) == 95) = true := h95
                          clear hlt h95 hS
                          go_wp2_with (go_at_call 24; refine (isLetter_any _ _).mono ?_; rintro e w' ⟨rfl, hw⟩; rw [hw, HLt.out]; clear hw)
                          all_goals
                            go_meet
                            case rel => exact ⟨rfl, rfl, hjl, hlt2, HA⟩
                      · have HLt : Hid (letter L[j] = true) := hlt
                        clear hlt hS
                        go_wp2_with (go_at_call 24; refine (isLetter_any _ _).mono ?_; rintro e w' ⟨rfl, hw⟩; rw [hw, HLt.out]; clear hw)
                        all_goals
                          go_meet
                          case rel => exact ⟨rfl, rfl, hjl, hlt2, HA⟩
                · have h47' : ((L[j].toNat : Int) == 47) = true := h47
                  have HLt : Hid (letter L[j] = false) := letter_47 h47
                  have h95 : ((L[j].toNat : Int) == 95) = false := eqb_excl h47 (by decide)
                  have h58 : ((L[j].toNat : Int) == 58) = false := eqb_excl h47 (by decide)
                  by_cases hj1 : j + 1 < L.length
                  · have hcj1 := HR'.out (j + 1) hj1
                    cases hn62 : eqb L[j + 1] 62
                    · have hn62' : ((L[j + 1].toNat : Int) == 62) = false := hn62
                      have HA : Hid (A L 0 1 = 0) := HI.out.trans (by have := HJ.out; subst this; exact aft_sl0 hjl h47 (fun _ => hn62))
                      clear h62 h47 hn62
                      go_wp2_with (go_at_call 24; refine (isLetter_any _ _).mono ?_; rintro e w' ⟨rfl, hw⟩; rw [hw, HLt.out]; clear hw)
                      all_goals
                        go_ret
                        exact ⟨ret_int (by rw [HA.out]; rfl), rfl⟩
                    · have hn62' : ((L[j + 1].toNat : Int) == 62) = true := hn62
                      have HA : Hid (A L 0 1 = j + 2) := HI.out.trans (by have := HJ.out; subst this; exact aft_sl hj1 h47 hn62)
                      clear h62 h47 hn62
                      go_wp2_with fail
                      go_ret
                      exact ⟨ret_int (by rw [HA.out]; omega), rfl⟩
                  · have HA : Hid (A L 0 1 = 0) := HI.out.trans (by have := HJ.out; subst this; exact aft_sl0 hjl h47 (fun h => absurd h hj1))
                    clear h62 h47
                    go_wp2_with (go_at_call 24; refine (isLetter_any _ _).mono ?_; rintro e w' ⟨rfl, hw⟩; rw [hw, HLt.out]; clear hw)
                    all_goals
                      go_ret
                      exact ⟨ret_int (by rw [HA.out]; rfl), rfl⟩
              · have h62' : ((L[j].toNat : Int) == 62) = true := h62
                have HA : Hid (A L 0 1 = j + 1) := HI.out.trans (by have := HJ.out; subst this; exact aft_gt hjl h62)
                clear h62
                go_wp2_with fail
                go_ret
                exact ⟨ret_int (by rw [HA.out]; omega), rfl⟩
            · have HA : Hid (A L 0 1 = 0) := HI.out.trans (aft_end (by rw [← HJ.out]; omega))
              have hbl : ((j : Int) == (L.length : Int)) = true := beq_iff_eq.2 (by omega)
              go_wp2_with fail
              all_goals
                go_ret
                exact ⟨ret_int (by rw [HA.out]; rfl), rfl⟩
        case rest =>
          obtain ⟨rfl, rfl, hjl, hltij, HA⟩ := hcut
          have hm1 : j + 1 ≤ L.length := by omega
          go_upto_block 5 with fail
          go_cut [5] (fun v wx => w = wx ∧ ∃ m : Nat, j < m ∧ m ≤ L.length ∧ v = .int .i64 m ∧ Hid (A L 0 1 = A L 4 m) ∧ Hid (∀ h : m < L.length, attrC L[m] = false))
          case first =>
            as_aux_lemma =>
              go_wp2_with fail
              go_loop [5] (fun v => ∃ m : Nat, j < m ∧ m ≤ L.length ∧ v = .int .i64 m ∧ Hid (A L 0 1 = A L 4 m)) (fun v => L.length - (intOf v).toNat)
              case atStart => exact ⟨j + 1, by omega, by omega, by go_num, HA⟩
              case round =>
                clear HA
                obtain ⟨m, hjm, hmL, rfl, HM⟩ := hrel
                by_cases hlt : m < L.length
                · have hcm := HR'.out m hlt
                  obtain ⟨r, hr⟩ : ∃ r, r = Lib.indexByte (⟨#[95, 46, 58, 45]⟩ : ByteArray).data.toList ((L[m].toNat : Int)).toNat.toUInt8 := ⟨_, rfl⟩
                  have hrs := mem_attr L[m]
                  rw [← hr] at hrs
                  have HX : Hid (∀ w', Calls Try.prog 27 #[.string ⟨#[95, 46, 58, 45]⟩, .int .u8 (L[m].toNat : Int)] w' fun e w'' => e = .returned (.int .i64 r) ∧ w'' = w') := fun w' => by rw [hr]; exact strIndexByte_any _ _ _
                  clear hr
                  cases hn : attrC L[m]
                  · have hn2 := hn
                    rw [attrC_split, Bool.or_eq_false_iff] at hn2
                    have HLD : Hid ((letter L[m] || digit L[m]) = false) := hn2.1
                    have hr0 : r < 0 := by
                      have : ¬ 0 ≤ r := fun e => by rw [hrs.1 e] at hn2; cases hn2.2
                      omega
                    have HN : Hid (∀ h : m < L.length, attrC L[m] = false) := fun _ => hn
                    clear hn hn2 hrs
                    go_wp2_with (first | (go_at_call 25; refine (isAlnum_any _ _).mono ?_; rintro e w' ⟨rfl, hw⟩; rw [hw, HLD.out]; clear hw) | (go_at_call 27; refine (HX.out _).mono ?_; rintro e w' ⟨rfl, hw⟩; rw [hw]; clear hw))
                    go_meet
                    case rel => exact ⟨rfl, m, hjm, hmL, rfl, HM, HN⟩
                  · have HM2 : Hid (A L 0 1 = A L 4 (m + 1)) := HM.out.trans (h4y hlt hn)
                    cases hld : (letter L[m] || digit L[m])
                    · have hr0 : 0 ≤ r := by
                        rw [attrC_split, hld, Bool.false_or] at hn
                        exact hrs.2 hn
                      have HLD : Hid ((letter L[m] || digit L[m]) = false) := hld
                      clear hn hld hrs
                      go_wp2_with (first | (go_at_call 25; refine (isAlnum_any _ _).mono ?_; rintro e w' ⟨rfl, hw⟩; rw [hw, HLD.out]; clear hw) | (go_at_call 27; refine (HX.out _).mono ?_; rintro e w' ⟨rfl, hw⟩; rw [hw]; clear hw))
                      go_round
                      case rel => exact ⟨m + 1, by omega, by omega, by go_num, HM2⟩
                      case measure => simp [intOf]; omega
                    · have HLD : Hid ((letter L[m] || digit L[m]) = true) := hld
                      clear hn hld hrs
                      go_wp2_with (go_at_call 25; refine (isAlnum_any _ _).mono ?_; rintro e w' ⟨rfl, hw⟩; rw [hw, HLD.out]; clear hw)
                      go_round
                      case rel => exact ⟨m + 1, by omega, by omega, by go_num, HM2⟩
                      case measure => simp [intOf]; omega
                · have HN : Hid (∀ h : m < L.length, attrC L[m] = false) := fun h => absurd h hlt
                  go_wp2_with fail
                  go_meet
                  case rel => exact ⟨rfl, m, hjm, hmL, rfl, HM, HN⟩
          case rest =>
            clear HA
            obtain ⟨rfl, m, hjm, hmL, rfl, HM, HN⟩ := hcut
            obtain ⟨k, hk⟩ : ∃ k, k = skip L m := ⟨_, rfl⟩
            have HCk : Hid (∀ w', w' = w → Calls Try.prog 26 #[.slice (some ⟨g, 0, none⟩) L.length cap, .int .i64 m] w' fun e w'' => e = .returned (.int .i64 k) ∧ w'' = w') := fun w' e => by rw [e, hk]; exact skip_any L g cap m w hmL hL HR'.out
            have hmk : m ≤ k := by rw [hk]; exact skip_ge L m
            have hkL : k ≤ L.length := by rw [hk]; exact skip_le hmL
            have HK : Hid (k = skip L m) := hk
            clear hk HC
            by_cases heq : ∃ h : k < L.length, eqb L[k] 61 = true
            · obtain ⟨hkl, h61⟩ := heq
              have hck := HR'.out k hkl
              have h61' : ((L[k].toNat : Int) == 61) = true := h61
              have H6 : Hid (A L 0 1 = A L 6 (k + 1)) := HM.out.trans (by have := HK.out; subst this; exact attr_eq HN.out hkl h61)
              obtain ⟨k2, hk2e⟩ : ∃ k2, k2 = skip L (k + 1) := ⟨_, rfl⟩
              have HC2 : Hid (∀ w', w' = w → Calls Try.prog 26 #[.slice (some ⟨g, 0, none⟩) L.length cap, .int .i64 ((k : Int) + 1)] w' fun e w'' => e = .returned (.int .i64 k2) ∧ w'' = w') := fun w' e => by
                rw [e, hk2e, show ((k : Int) + 1) = ((k + 1 : Nat) : Int) by omega]; exact skip_any L g cap (k + 1) w (by omega) hL HR'.out
              have hkk2 : k + 1 ≤ k2 := by rw [hk2e]; exact skip_ge L (k + 1)
              have hk2L : k2 ≤ L.length := by rw [hk2e]; exact skip_le (by omega)
              have H62 : Hid (A L 0 1 = A L 6 k2) := by show _ = _; rw [H6.out, eq_skip, ← hk2e]
              have HW2 : Hid (∀ h : k2 < L.length, white L[k2] = false) := fun h => by
                have hh := hk2e ▸ h
                have := skip_at (L := L) _ (k + 1) rfl hh
                simpa only [← hk2e] using this
              clear hk2e h61 HM HN HK H6
              go_wp2_with fail
              refine (HCk.out _ rfl).mono ?_
              rintro e w' ⟨rfl, hw⟩
              rw [hw]
              clear hw
              go_wp2_with fail
              refine (HC2.out _ rfl).mono ?_
              rintro e w' ⟨rfl, hw⟩
              rw [hw]
              clear hw HCk HC2
              by_cases hk2 : k2 < L.length
              · have hck2 := HR'.out k2 hk2
                have hk2b : ((k2 : Int) == (L.length : Int)) = false := beq_eq_false_iff_ne.2 (by omega)
                cases h34 : eqb L[k2] 34
                · have h34' : ((L[k2].toNat : Int) == 34) = false := h34
                  cases h39 : eqb L[k2] 39
                  · have h39' : ((L[k2].toNat : Int) == 39) = false := h39
                    have hwf := HW2.out hk2
                    cases hu : unq L[k2]
                    · have HA0 : Hid (A L 0 1 = 0) := H62.out.trans (val0 hk2 hwf h34 h39 hu)
                      as_aux_lemma =>
                        obtain ⟨r, hr⟩ : ∃ r, r = Lib.indexByte (⟨#[34, 39, 61, 60, 62, 96]⟩ : ByteArray).data.toList ((L[k2].toNat : Int)).toNat.toUInt8 := ⟨_, rfl⟩
                        have hrs := mem_unq L[k2]
                        rw [← hr] at hrs
                        have HX : Hid (∀ w', Calls Try.prog 27 #[.string ⟨#[34, 39, 61, 60, 62, 96]⟩, .int .u8 (L[k2].toNat : Int)] w' fun e w'' => e = .returned (.int .i64 r) ∧ w'' = w') := fun w' => by rw [hr]; exact strIndexByte_any _ _ _
                        clear hr
                        by_cases hgt : 32 < L[k2].toNat
                        · have hr0 : 0 ≤ r := by
                            rw [unq_split, decide_eq_true hgt, Bool.true_and] at hu
                            have : ¬ r < 0 := fun e => by rw [hrs.1 e] at hu; cases hu
                            omega
                          have hgt' : (32 : Int) < (L[k2].toNat : Int) := by omega
                          clear hu hrs h34 h39 hwf hgt
                          go_wp2_with fail
                          refine wp_loop_rounds 1 ?_
                          rw [rounds_succ]
                          go_wp2_with (go_at_call 27; refine (HX.out _).mono ?_; rintro e w' ⟨rfl, hw⟩; rw [hw]; clear hw)
                          go_ret
                          exact ⟨ret_int (by rw [HA0.out]; rfl), rfl⟩
                        · have hgt' : (L[k2].toNat : Int) ≤ 32 := by omega
                          clear hu hrs h34 h39 hwf hgt
                          go_wp2_with fail
                          refine wp_loop_rounds 1 ?_
                          rw [rounds_succ]
                          go_wp2_with fail
                          go_ret
                          exact ⟨ret_int (by rw [HA0.out]; rfl), rfl⟩
                    · have H9 : Hid (A L 0 1 = A L 9 k2) := H62.out.trans (val9 hk2 hwf h34 h39 hu)
                      as_aux_lemma =>
                        have HU : Hid (unq L[k2] = true) := hu
                        clear hu h34 h39 hwf
                        go_wp2_with fail
                        go_loop [6] (fun v => ∃ p : Nat, k2 ≤ p ∧ p ≤ L.length ∧ v = .int .i64 p ∧ Hid (A L 0 1 = A L 9 p)) (fun v => L.length - (intOf v).toNat)
                        case atStart => exact ⟨k2, Nat.le_refl _, by omega, rfl, H9⟩
                        case round =>
                          clear hck2
                          obtain ⟨p, hp1, hp2, rfl, HP⟩ := hrel
                          by_cases hlt : p < L.length
                          · have hcp := HR'.out p hlt
                            obtain ⟨r, hr⟩ : ∃ r, r = Lib.indexByte (⟨#[34, 39, 61, 60, 62, 96]⟩ : ByteArray).data.toList ((L[p].toNat : Int)).toNat.toUInt8 := ⟨_, rfl⟩
                            have hrs := mem_unq L[p]
                            rw [← hr] at hrs
                            have HX : Hid (∀ w', Calls Try.prog 27 #[.string ⟨#[34, 39, 61, 60, 62, 96]⟩, .int .u8 (L[p].toNat : Int)] w' fun e w'' => e = .returned (.int .i64 r) ∧ w'' = w') := fun w' => by rw [hr]; exact strIndexByte_any _ _ _
                            clear hr
                            cases hu : unq L[p]
                            · have HF : Hid (A L 0 1 = aft L p) := HP.out.trans (end9 (fun _ => hu))
                              have hpk : p ≠ k2 := by
                                rintro rfl
                                rw [HU.out] at hu
                                cases hu
                              have hpb : ((p : Int) == (k2 : Int)) = false := beq_eq_false_iff_ne.2 (by omega)
                              by_cases hgt : 32 < L[p].toNat
                              · have hr0 : 0 ≤ r := by
                                  rw [unq_split, decide_eq_true hgt, Bool.true_and] at hu
                                  have : ¬ r < 0 := fun e => by rw [hrs.1 e] at hu; cases hu
                                  omega
                                have hgt' : (32 : Int) < (L[p].toNat : Int) := by omega
                                clear hu hrs hgt
                                go_wp2_with (go_at_call 27; refine (HX.out _).mono ?_; rintro e w' ⟨rfl, hw⟩; rw [hw]; clear hw)
                                go_roundg (L.length - p)
                                case measure => omega
                                case rel => exact ⟨rfl, p, by omega, Nat.le_refl _, rfl, HF⟩
                              · have hgt' : (L[p].toNat : Int) ≤ 32 := by omega
                                clear hu hrs hgt
                                go_wp2_with fail
                                go_roundg (L.length - p)
                                case measure => omega
                                case rel => exact ⟨rfl, p, by omega, Nat.le_refl _, rfl, HF⟩
                            · have HP2 : Hid (A L 0 1 = A L 9 (p + 1)) := HP.out.trans (h9y hlt hu)
                              have hu2 := hu
                              rw [unq_split, Bool.and_eq_true] at hu2
                              have hgt' : (32 : Int) < (L[p].toNat : Int) := by have := of_decide_eq_true hu2.1; omega
                              have hr0 : r < 0 := hrs.2 hu2.2
                              clear hu hu2 hrs
                              go_wp2_with (go_at_call 27; refine (HX.out _).mono ?_; rintro e w' ⟨rfl, hw⟩; rw [hw]; clear hw)
                              go_round
                              case rel => exact ⟨p + 1, by omega, by omega, by go_num, HP2⟩
                              case measure => simp [intOf]; omega
                          · have HF : Hid (A L 0 1 = aft L p) := HP.out.trans (end9 (fun h => absurd h hlt))
                            have hpb : ((p : Int) == (k2 : Int)) = false := beq_eq_false_iff_ne.2 (by omega)
                            go_wp2_with fail
                            go_roundg (L.length - p)
                            case measure => omega
                            case rel => exact ⟨rfl, p, by omega, Nat.le_refl _, rfl, HF⟩
                  · have h39' : ((L[k2].toNat : Int) == 39) = true := h39
                    have H8 : Hid (A L 0 1 = A L 8 (k2 + 1)) := H62.out.trans (val8 hk2 h39)
                    as_aux_lemma =>
                      have HQ2 := quote st8 st8q (by decide) hk2 h39
                      obtain ⟨r, hr⟩ : ∃ r, r = Lib.indexByte (L.drop (k2 + 1)) L[k2] := ⟨_, rfl⟩
                      rw [← hr] at HQ2
                      have HCI2 : Hid (∀ (o c : Nat), (o = k2 + 1 ∨ L.length = k2 + 1) → ∀ w', w' = w → Calls Try.prog 28 #[.slice (some ⟨g, o, none⟩) (L.length - (k2 + 1)) c, .int .u8 (L[k2].toNat : Int)] w' fun e w'' => e = .returned (.int .i64 r) ∧ w'' = w') := fun o c ho w' e => by rw [e, hr]; exact rest_index L g cap k2 w hk2 HR'.out o ho _
                      clear h39 hr
                      by_cases hcc : cap = k2 + 1
                      · rcases HQ2 with ⟨hr1, hA0⟩ | ⟨e, hre, hle, hAe⟩
                        · have HA0 : Hid (A L 0 1 = 0) := H8.out.trans hA0
                          have hrn : r < 0 := by omega
                          have HLE : Hid (L.length = k2 + 1) := by show _ = _; omega
                          clear hr1 hA0
                          go_wp2_with (go_at_call 28; refine (HCI2.out _ _ (.inr HLE.out) _ rfl).mono ?_; rintro e w' ⟨rfl, hw⟩; rw [hw]; clear hw)
                          go_ret
                          exact ⟨ret_int (by rw [HA0.out]; rfl), rfl⟩
                        · omega
                      · rcases HQ2 with ⟨hr1, hA0⟩ | ⟨e, hre, hle, hAe⟩
                        · have HA0 : Hid (A L 0 1 = 0) := H8.out.trans hA0
                          have hrn : r < 0 := by omega
                          clear hr1 hA0
                          go_wp2_with (go_at_call 28; refine (HCI2.out _ _ (.inl rfl) _ rfl).mono ?_; rintro e w' ⟨rfl, hw⟩; rw [hw]; clear hw)
                          go_ret
                          exact ⟨ret_int (by rw [HA0.out]; rfl), rfl⟩
                        · have HAE : Hid (A L 0 1 = aft L (k2 + e + 2)) := H8.out.trans hAe
                          have hr0 : 0 ≤ r := by omega
                          have hr1 : r ≤ 65536 := by omega
                          have HRE : Hid (r = (e : Int)) := hre
                          clear hre hAe
                          go_wp2_with (go_at_call 28; refine (HCI2.out _ _ (.inl rfl) _ rfl).mono ?_; rintro e w' ⟨rfl, hw⟩; rw [hw]; clear hw)
                          go_roundg (L.length - (k2 + e + 2))
                          case measure => omega
                          case rel => exact ⟨rfl, k2 + e + 2, by omega, Nat.le_refl _, by rw [HRE.out]; go_num, HAE⟩
                · have h34' : ((L[k2].toNat : Int) == 34) = true := h34
                  have H8 : Hid (A L 0 1 = A L 7 (k2 + 1)) := H62.out.trans (val7 hk2 h34)
                  as_aux_lemma =>
                    have HQ2 := quote st7 st7q (by decide) hk2 h34
                    obtain ⟨r, hr⟩ : ∃ r, r = Lib.indexByte (L.drop (k2 + 1)) L[k2] := ⟨_, rfl⟩
                    rw [← hr] at HQ2
                    have HCI2 : Hid (∀ (o c : Nat), (o = k2 + 1 ∨ L.length = k2 + 1) → ∀ w', w' = w → Calls Try.prog 28 #[.slice (some ⟨g, o, none⟩) (L.length - (k2 + 1)) c, .int .u8 (L[k2].toNat : Int)] w' fun e w'' => e = .returned (.int .i64 r) ∧ w'' = w') := fun o c ho w' e => by rw [e, hr]; exact rest_index L g cap k2 w hk2 HR'.out o ho _
                    clear h34 hr
                    by_cases hcc : cap = k2 + 1
                    · rcases HQ2 with ⟨hr1, hA0⟩ | ⟨e, hre, hle, hAe⟩
                      · have HA0 : Hid (A L 0 1 = 0) := H8.out.trans hA0
                        have hrn : r < 0 := by omega
                        have HLE : Hid (L.length = k2 + 1) := by show _ = _; omega
                        clear hr1 hA0
                        go_wp2_with (go_at_call 28; refine (HCI2.out _ _ (.inr HLE.out) _ rfl).mono ?_; rintro e w' ⟨rfl, hw⟩; rw [hw]; clear hw)
                        go_ret
                        exact ⟨ret_int (by rw [HA0.out]; rfl), rfl⟩
                      · omega
                    · rcases HQ2 with ⟨hr1, hA0⟩ | ⟨e, hre, hle, hAe⟩
                      · have HA0 : Hid (A L 0 1 = 0) := H8.out.trans hA0
                        have hrn : r < 0 := by omega
                        clear hr1 hA0
                        go_wp2_with (go_at_call 28; refine (HCI2.out _ _ (.inl rfl) _ rfl).mono ?_; rintro e w' ⟨rfl, hw⟩; rw [hw]; clear hw)
                        go_ret
                        exact ⟨ret_int (by rw [HA0.out]; rfl), rfl⟩
                      · have HAE : Hid (A L 0 1 = aft L (k2 + e + 2)) := H8.out.trans hAe
                        have hr0 : 0 ≤ r := by omega
                        have hr1 : r ≤ 65536 := by omega
                        have HRE : Hid (r = (e : Int)) := hre
                        clear hre hAe
                        go_wp2_with (go_at_call 28; refine (HCI2.out _ _ (.inl rfl) _ rfl).mono ?_; rintro e w' ⟨rfl, hw⟩; rw [hw]; clear hw)
                        go_roundg (L.length - (k2 + e + 2))
                        case measure => omega
                        case rel => exact ⟨rfl, k2 + e + 2, by omega, Nat.le_refl _, by rw [HRE.out]; go_num, HAE⟩
              · have hk2b : ((k2 : Int) == (L.length : Int)) = true := beq_iff_eq.2 (by omega)
                have HA0 : Hid (A L 0 1 = 0) := H62.out.trans (A_end (by omega))
                go_wp2_with fail
                go_ret
                exact ⟨ret_int (by rw [HA0.out]; rfl), rfl⟩
            · have HF : Hid (A L 0 1 = aft L m) := HM.out.trans (end4 HN.out (fun h => by
                have e := HK.out
                cases hb : eqb L[skip L m] 61
                · rfl
                · exact absurd ⟨by rw [e]; exact h, by simpa only [e] using hb⟩ heq))
              by_cases hkl : k < L.length
              · have hck := HR'.out k hkl
                have h61 : ((L[k].toNat : Int) == 61) = false := by
                  cases hb : eqb L[k] 61
                  · exact hb
                  · exact absurd ⟨hkl, hb⟩ heq
                clear heq
                go_wp2_with (go_at_call 26; refine (HCk.out _ rfl).mono ?_; rintro e w' ⟨rfl, hw⟩; rw [hw]; clear hw)
                go_roundg (L.length - m)
                case measure => omega
                case rel => exact ⟨rfl, m, hmL, Nat.le_refl _, rfl, HF⟩
              · clear heq
                go_wp2_with (go_at_call 26; refine (HCk.out _ rfl).mono ?_; rintro e w' ⟨rfl, hw⟩; rw [hw]; clear hw)
                go_roundg (L.length - m)
                case measure => omega
                case rel => exact ⟨rfl, m, hmL, Nat.le_refl _, rfl, HF⟩
end Go.Proofs.Qxb6002915a
