import Derived.Test.Qxb6001690aAppend
namespace Go.Proofs.Qxb6001690a
open Go.RowKit

def strSz : Value → Nat | .string s => s.size | _ => 0
def boolN : Value → Nat | .bool true => 1 | _ => 0

theorem empty_of (f : ByteArray) (h : f.toList.isEmpty = true) : bl f = [] := by
  rw [ByteArray.toList_eq] at h
  exact List.isEmpty_iff.1 h
theorem ne_of (f : ByteArray) (h : f.toList.isEmpty = false) : bl f ≠ [] := by
  intro e
  rw [ByteArray.toList_eq, show f.data.toList = [] from e] at h
  cases h
theorem start_empty (l n f t : List UInt8) (h : f = []) : l ++ n ++ [58] ++ t = l ++ (piece0 n f ++ t) := by
  simp [piece0, h]
theorem start_full (l n f t : List UInt8) (h : f ≠ []) : l ++ n ++ [58] ++ [32] ++ f ++ t = l ++ (piece0 n f ++ t) := by
  simp [piece0, h]

theorem moreLines_true (r : List UInt8) : moreLines true r = splitNL r := rfl
theorem moreLines_false (r : List UInt8) : moreLines false r = [] := rfl
theorem step_sp {eol L r f x T : List UInt8} {lines : Bool} {rest : List (List UInt8)} (H : L ++ encTail eol lines (moreLines true r) = T) (hs : splitNL r = f :: rest) (hP : pieceK lines f = [32] ++ x) : L ++ eol ++ [32] ++ x ++ encTail eol lines rest = T := by
  rw [moreLines_true, hs, encTail, hP] at H
  rw [← H]; simp only [List.append_assoc]
theorem step_no {eol L r f T : List UInt8} {lines : Bool} {rest : List (List UInt8)} (H : L ++ encTail eol lines (moreLines true r) = T) (hs : splitNL r = f :: rest) (hP : pieceK lines f = f) : L ++ eol ++ f ++ encTail eol lines rest = T := by
  rw [moreLines_true, hs, encTail, hP] at H
  rw [← H]; simp only [List.append_assoc]
theorem pK_e (lines : Bool) (f : List UInt8) (hf : f = []) : pieceK lines f = [32] ++ bl ⟨#[46]⟩ := by subst hf; simp [pieceK, blankN, bl]
theorem pK_t (f : List UInt8) (hf : f ≠ []) : pieceK true f = [32] ++ f := by simp [pieceK, hf]
theorem pK_z (f : List UInt8) (hf : f ≠ []) (h : blankN f ≤ 0) : pieceK false f = [32] ++ f := by
  have h0 : blankN f = 0 := by omega
  simp [pieceK, hf, h0]
theorem pK_n (f : List UInt8) (hf : f ≠ []) (h : 0 < blankN f) : pieceK false f = f := by
  have h0 : ¬ blankN f = 0 := by omega
  simp [pieceK, hf, h0]
theorem blankN_nil (f : List UInt8) (hf : f = []) (h : 0 < blankN f) : False := by subst hf; simp [blankN] at h
theorem fin_eq {L l eol name value f r r0 : List UInt8} {lines m0 : Bool} (hsp : splitNL value = f :: moreLines m0 r0) (H : L ++ encTail eol lines (moreLines false r) = l ++ (piece0 name f ++ encTail eol lines (moreLines m0 r0))) :
    L ++ eol = l ++ encAll eol lines name value := by
  rw [moreLines_false, encTail, List.append_nil] at H
  rw [encAll, hsp, ← enc_first, H]; simp only [List.append_assoc]

theorem meas (r r2 : ByteArray) (m2 : Bool) (f : Nat) (h1 : f + r2.size ≤ r.size) (h2 : m2 = true → f + r2.size + 1 ≤ r.size) : strSz (.string r2) + boolN (.bool m2) < strSz (.string r) + boolN (.bool true) := by
  cases m2
  · simp only [strSz, boolN]; omega
  · have := h2 rfl
    simp only [strSz, boolN]; omega

set_option maxHeartbeats 2000000 in
theorem appendField_f (v : Value) (l : List UInt8) (name value eol : ByteArray) (w : World) (hown : Own w v l) (hb : l.length + name.size + value.size ≤ 1048576) (he : eol.size ≤ 2) :
    Calls Try.prog 81 #[v, .string name, .string value, .string eol, .bool false] w fun e w' => ∃ v', e = .returned v' ∧ Own w' v' (l ++ encAll (bl eol) false (bl name) (bl value)) ∧ Grows w w' v v' := by
  go_enter Try.func81, Try.ntmps81
  go_wp2_with fail
  refine (cut_any _ _ (by omega)).mono ?_
  rintro e w' ⟨f, r0, m0, rfl, hsp, hfr, hlt, n, rfl⟩
  have hO := hown.drewN n
  have hG := (Grows.refl w v).drewN n
  clear hown
  have HF : Hid ((f.toList.isEmpty = true → bl f = []) ∧ (f.toList.isEmpty = false → bl f ≠ [])) := ⟨empty_of f, ne_of f⟩
  cases hf0 : f.toList.isEmpty
  all_goals
    have HF0 : Hid (f.toList.isEmpty = _) := hf0
    go_wp2_with (first | (at_builtin; refine wp_ap_str _ rfl _ _ rfl _ _ rfl hO _ rfl ?_ ?_; omega; intro v1 w1 ho1 hg1 hn1; replace hG := hG.trans hg1; replace hO := ho1; clear ho1 hg1) | (at_builtin; refine wp_ap_byte _ rfl _ _ rfl _ _ rfl (hO.alloc _) 58 _ _ rfl ?_ ?_ ?_; simp; omega; intro v2 w2 ho2 hg2 hn2; replace hG := (hG.alloc _).trans hg2; replace hO := ho2; clear ho2 hg2) | (at_builtin; refine wp_ap_byte _ rfl _ _ rfl _ _ rfl (hO.alloc _) 32 _ _ rfl ?_ ?_ ?_; simp; omega; intro v2 w2 ho2 hg2 hn2; replace hG := (hG.alloc _).trans hg2; replace hO := ho2; clear ho2 hg2))
    go_loopw [0, 12, 13] (fun D R M wr => ∃ (L : List UInt8) (r : ByteArray) (m : Bool), R = .string r ∧ M = .bool m ∧ Own wr D L ∧ Grows w wr v D ∧ r.size ≤ 1048576 ∧ L.length ≤ 6000000 ∧ (m = true → L.length + 4 * r.size + 8 ≤ 6000000) ∧ Hid (L ++ encTail (bl eol) false (moreLines m (bl r)) = l ++ (piece0 (bl name) (bl f) ++ encTail (bl eol) false (moreLines m0 (bl r0))))) (fun _ R M _ => strSz R + boolN M)
    case atStart => first | exact ⟨_, r0, m0, rfl, rfl, hO, hG, by omega, by omega, by intro _; omega, start_empty _ _ _ _ (HF.out.1 HF0.out)⟩ | exact ⟨_, r0, m0, rfl, rfl, hO, hG, by omega, by omega, by intro _; omega, start_full _ _ _ _ (HF.out.2 HF0.out)⟩
    case round =>
      clear hO hG hlt
      obtain ⟨L, r, m, rfl, rfl, hO, hG, hr, hL, hL2, HT⟩ := hrel
      cases m
      · clear hL2
        go_wp2_with (first | (at_builtin; refine wp_ap_str _ rfl _ _ rfl _ _ rfl hO _ rfl ?_ ?_; omega; intro v1 w1 ho1 hg1 hn1; replace hG := hG.trans hg1; replace hO := ho1; clear ho1 hg1) | (at_builtin; refine wp_ap_byte _ rfl _ _ rfl _ _ rfl (hO.alloc _) 32 _ _ rfl ?_ ?_ ?_; simp; omega; intro v2 w2 ho2 hg2 hn2; replace hG := (hG.alloc _).trans hg2; replace hO := ho2; clear ho2 hg2) | (at_builtin; refine wp_ap_str _ rfl _ _ rfl _ _ rfl hO ⟨#[46]⟩ rfl (by show _ + 1 ≤ _; omega) ?_; intro v1 w1 ho1 hg1 hn1; replace hn1 := Nat.le_trans hn1 (Nat.le_refl (_ + 1)); replace hG := hG.trans hg1; replace hO := ho1; clear ho1 hg1) | (go_at_call 99; refine (blankStart_any _ _ ?_).mono ?_; (unfold maxLen; omega); rintro e w' ⟨rfl, rfl⟩))
        go_ret
        refine ⟨_, rfl, ?_, hG⟩
        rw [← fin_eq hsp.out HT.out]
        exact hO
      · have hL3 := hL2 rfl
        clear hL2
        go_wp2_with fail
        refine (cut_any _ _ hr).mono ?_
        rintro e w' ⟨f2, r2, m2, rfl, hsp2, hfr2, hlt2, n2, rfl⟩
        replace hO := hO.drewN n2
        replace hG := hG.drewN n2
        have HF2 : Hid ((f2.toList.isEmpty = true → bl f2 = []) ∧ (f2.toList.isEmpty = false → bl f2 ≠ [])) := ⟨empty_of f2, ne_of f2⟩
        cases hf2 : f2.toList.isEmpty
        · rcases Nat.lt_or_ge 0 (blankN (bl f2)) with hbn | hbn
          · have HF3 : Hid (bl f2 ≠ []) := HF2.out.2 hf2
            have HB : Hid (0 < blankN (bl f2)) := hbn
            go_wp2_with (first | (at_builtin; refine wp_ap_str _ rfl _ _ rfl _ _ rfl hO _ rfl ?_ ?_; omega; intro v1 w1 ho1 hg1 hn1; replace hG := hG.trans hg1; replace hO := ho1; clear ho1 hg1) | (at_builtin; refine wp_ap_byte _ rfl _ _ rfl _ _ rfl (hO.alloc _) 32 _ _ rfl ?_ ?_ ?_; simp; omega; intro v2 w2 ho2 hg2 hn2; replace hG := (hG.alloc _).trans hg2; replace hO := ho2; clear ho2 hg2) | (at_builtin; refine wp_ap_str _ rfl _ _ rfl _ _ rfl hO ⟨#[46]⟩ rfl (by show _ + 1 ≤ _; omega) ?_; intro v1 w1 ho1 hg1 hn1; replace hn1 := Nat.le_trans hn1 (Nat.le_refl (_ + 1)); replace hG := hG.trans hg1; replace hO := ho1; clear ho1 hg1) | (go_at_call 99; refine (blankStart_any _ _ ?_).mono ?_; (unfold maxLen; omega); rintro e w' ⟨rfl, rfl⟩))
            go_roundw
            case rel => exact ⟨_, r2, m2, rfl, rfl, hO, hG, by omega, by omega, (fun h => by have := hlt2 h; omega), step_no HT.out hsp2.out (pK_n _ HF3.out HB.out)⟩
            case measure => exact meas r r2 m2 _ hfr2 hlt2
          · have HF3 : Hid (bl f2 ≠ []) := HF2.out.2 hf2
            have HB : Hid (blankN (bl f2) ≤ 0) := hbn
            go_wp2_with (first | (at_builtin; refine wp_ap_str _ rfl _ _ rfl _ _ rfl hO _ rfl ?_ ?_; omega; intro v1 w1 ho1 hg1 hn1; replace hG := hG.trans hg1; replace hO := ho1; clear ho1 hg1) | (at_builtin; refine wp_ap_byte _ rfl _ _ rfl _ _ rfl (hO.alloc _) 32 _ _ rfl ?_ ?_ ?_; simp; omega; intro v2 w2 ho2 hg2 hn2; replace hG := (hG.alloc _).trans hg2; replace hO := ho2; clear ho2 hg2) | (at_builtin; refine wp_ap_str _ rfl _ _ rfl _ _ rfl hO ⟨#[46]⟩ rfl (by show _ + 1 ≤ _; omega) ?_; intro v1 w1 ho1 hg1 hn1; replace hn1 := Nat.le_trans hn1 (Nat.le_refl (_ + 1)); replace hG := hG.trans hg1; replace hO := ho1; clear ho1 hg1) | (go_at_call 99; refine (blankStart_any _ _ ?_).mono ?_; (unfold maxLen; omega); rintro e w' ⟨rfl, rfl⟩))
            go_roundw
            case rel => exact ⟨_, r2, m2, rfl, rfl, hO, hG, by omega, by omega, (fun h => by have := hlt2 h; omega), step_sp HT.out hsp2.out (pK_z _ HF3.out HB.out)⟩
            case measure => exact meas r r2 m2 _ hfr2 hlt2
        · rcases Nat.lt_or_ge 0 (blankN (bl f2)) with hbn | hbn
          · exact (blankN_nil _ (HF2.out.1 hf2) hbn).elim
          · have HF3 : Hid (bl f2 = []) := HF2.out.1 hf2
            go_wp2_with (first | (at_builtin; refine wp_ap_str _ rfl _ _ rfl _ _ rfl hO _ rfl ?_ ?_; omega; intro v1 w1 ho1 hg1 hn1; replace hG := hG.trans hg1; replace hO := ho1; clear ho1 hg1) | (at_builtin; refine wp_ap_byte _ rfl _ _ rfl _ _ rfl (hO.alloc _) 32 _ _ rfl ?_ ?_ ?_; simp; omega; intro v2 w2 ho2 hg2 hn2; replace hG := (hG.alloc _).trans hg2; replace hO := ho2; clear ho2 hg2) | (at_builtin; refine wp_ap_str _ rfl _ _ rfl _ _ rfl hO ⟨#[46]⟩ rfl (by show _ + 1 ≤ _; omega) ?_; intro v1 w1 ho1 hg1 hn1; replace hn1 := Nat.le_trans hn1 (Nat.le_refl (_ + 1)); replace hG := hG.trans hg1; replace hO := ho1; clear ho1 hg1) | (go_at_call 99; refine (blankStart_any _ _ ?_).mono ?_; (unfold maxLen; omega); rintro e w' ⟨rfl, rfl⟩))
            go_roundw
            case rel => exact ⟨_, r2, m2, rfl, rfl, hO, hG, by omega, by omega, (fun h => by have := hlt2 h; omega), step_sp HT.out hsp2.out (pK_e _ _ HF3.out)⟩
            case measure => exact meas r r2 m2 _ hfr2 hlt2

set_option maxHeartbeats 2000000 in
theorem appendField_t (v : Value) (l : List UInt8) (name value eol : ByteArray) (w : World) (hown : Own w v l) (hb : l.length + name.size + value.size ≤ 1048576) (he : eol.size ≤ 2) :
    Calls Try.prog 81 #[v, .string name, .string value, .string eol, .bool true] w fun e w' => ∃ v', e = .returned v' ∧ Own w' v' (l ++ encAll (bl eol) true (bl name) (bl value)) ∧ Grows w w' v v' := by
  go_enter Try.func81, Try.ntmps81
  go_wp2_with fail
  refine (cut_any _ _ (by omega)).mono ?_
  rintro e w' ⟨f, r0, m0, rfl, hsp, hfr, hlt, n, rfl⟩
  have hO := hown.drewN n
  have hG := (Grows.refl w v).drewN n
  clear hown
  have HF : Hid ((f.toList.isEmpty = true → bl f = []) ∧ (f.toList.isEmpty = false → bl f ≠ [])) := ⟨empty_of f, ne_of f⟩
  cases hf0 : f.toList.isEmpty
  all_goals
    have HF0 : Hid (f.toList.isEmpty = _) := hf0
    go_wp2_with (first | (at_builtin; refine wp_ap_str _ rfl _ _ rfl _ _ rfl hO _ rfl ?_ ?_; omega; intro v1 w1 ho1 hg1 hn1; replace hG := hG.trans hg1; replace hO := ho1; clear ho1 hg1) | (at_builtin; refine wp_ap_byte _ rfl _ _ rfl _ _ rfl (hO.alloc _) 58 _ _ rfl ?_ ?_ ?_; simp; omega; intro v2 w2 ho2 hg2 hn2; replace hG := (hG.alloc _).trans hg2; replace hO := ho2; clear ho2 hg2) | (at_builtin; refine wp_ap_byte _ rfl _ _ rfl _ _ rfl (hO.alloc _) 32 _ _ rfl ?_ ?_ ?_; simp; omega; intro v2 w2 ho2 hg2 hn2; replace hG := (hG.alloc _).trans hg2; replace hO := ho2; clear ho2 hg2))
    go_loopw [0, 12, 13] (fun D R M wr => ∃ (L : List UInt8) (r : ByteArray) (m : Bool), R = .string r ∧ M = .bool m ∧ Own wr D L ∧ Grows w wr v D ∧ r.size ≤ 1048576 ∧ L.length ≤ 6000000 ∧ (m = true → L.length + 4 * r.size + 8 ≤ 6000000) ∧ Hid (L ++ encTail (bl eol) true (moreLines m (bl r)) = l ++ (piece0 (bl name) (bl f) ++ encTail (bl eol) true (moreLines m0 (bl r0))))) (fun _ R M _ => strSz R + boolN M)
    case atStart => first | exact ⟨_, r0, m0, rfl, rfl, hO, hG, by omega, by omega, by intro _; omega, start_empty _ _ _ _ (HF.out.1 HF0.out)⟩ | exact ⟨_, r0, m0, rfl, rfl, hO, hG, by omega, by omega, by intro _; omega, start_full _ _ _ _ (HF.out.2 HF0.out)⟩
    case round =>
      clear hO hG hlt
      obtain ⟨L, r, m, rfl, rfl, hO, hG, hr, hL, hL2, HT⟩ := hrel
      cases m
      · clear hL2
        go_wp2_with (first | (at_builtin; refine wp_ap_str _ rfl _ _ rfl _ _ rfl hO _ rfl ?_ ?_; omega; intro v1 w1 ho1 hg1 hn1; replace hG := hG.trans hg1; replace hO := ho1; clear ho1 hg1) | (at_builtin; refine wp_ap_byte _ rfl _ _ rfl _ _ rfl (hO.alloc _) 32 _ _ rfl ?_ ?_ ?_; simp; omega; intro v2 w2 ho2 hg2 hn2; replace hG := (hG.alloc _).trans hg2; replace hO := ho2; clear ho2 hg2) | (at_builtin; refine wp_ap_str _ rfl _ _ rfl _ _ rfl hO ⟨#[46]⟩ rfl (by show _ + 1 ≤ _; omega) ?_; intro v1 w1 ho1 hg1 hn1; replace hn1 := Nat.le_trans hn1 (Nat.le_refl (_ + 1)); replace hG := hG.trans hg1; replace hO := ho1; clear ho1 hg1) | (go_at_call 99; refine (blankStart_any _ _ ?_).mono ?_; (unfold maxLen; omega); rintro e w' ⟨rfl, rfl⟩))
        go_ret
        refine ⟨_, rfl, ?_, hG⟩
        rw [← fin_eq hsp.out HT.out]
        exact hO
      · have hL3 := hL2 rfl
        clear hL2
        go_wp2_with fail
        refine (cut_any _ _ hr).mono ?_
        rintro e w' ⟨f2, r2, m2, rfl, hsp2, hfr2, hlt2, n2, rfl⟩
        replace hO := hO.drewN n2
        replace hG := hG.drewN n2
        have HF2 : Hid ((f2.toList.isEmpty = true → bl f2 = []) ∧ (f2.toList.isEmpty = false → bl f2 ≠ [])) := ⟨empty_of f2, ne_of f2⟩
        cases hf2 : f2.toList.isEmpty
        · have HF3 : Hid (bl f2 ≠ []) := HF2.out.2 hf2
          go_wp2_with (first | (at_builtin; refine wp_ap_str _ rfl _ _ rfl _ _ rfl hO _ rfl ?_ ?_; omega; intro v1 w1 ho1 hg1 hn1; replace hG := hG.trans hg1; replace hO := ho1; clear ho1 hg1) | (at_builtin; refine wp_ap_byte _ rfl _ _ rfl _ _ rfl (hO.alloc _) 32 _ _ rfl ?_ ?_ ?_; simp; omega; intro v2 w2 ho2 hg2 hn2; replace hG := (hG.alloc _).trans hg2; replace hO := ho2; clear ho2 hg2) | (at_builtin; refine wp_ap_str _ rfl _ _ rfl _ _ rfl hO ⟨#[46]⟩ rfl (by show _ + 1 ≤ _; omega) ?_; intro v1 w1 ho1 hg1 hn1; replace hn1 := Nat.le_trans hn1 (Nat.le_refl (_ + 1)); replace hG := hG.trans hg1; replace hO := ho1; clear ho1 hg1) | (go_at_call 99; refine (blankStart_any _ _ ?_).mono ?_; (unfold maxLen; omega); rintro e w' ⟨rfl, rfl⟩))
          go_roundw
          case rel => exact ⟨_, r2, m2, rfl, rfl, hO, hG, by omega, by omega, (fun h => by have := hlt2 h; omega), step_sp HT.out hsp2.out (pK_t _ HF3.out)⟩
          case measure => exact meas r r2 m2 _ hfr2 hlt2
        · have HF3 : Hid (bl f2 = []) := HF2.out.1 hf2
          go_wp2_with (first | (at_builtin; refine wp_ap_str _ rfl _ _ rfl _ _ rfl hO _ rfl ?_ ?_; omega; intro v1 w1 ho1 hg1 hn1; replace hG := hG.trans hg1; replace hO := ho1; clear ho1 hg1) | (at_builtin; refine wp_ap_byte _ rfl _ _ rfl _ _ rfl (hO.alloc _) 32 _ _ rfl ?_ ?_ ?_; simp; omega; intro v2 w2 ho2 hg2 hn2; replace hG := (hG.alloc _).trans hg2; replace hO := ho2; clear ho2 hg2) | (at_builtin; refine wp_ap_str _ rfl _ _ rfl _ _ rfl hO ⟨#[46]⟩ rfl (by show _ + 1 ≤ _; omega) ?_; intro v1 w1 ho1 hg1 hn1; replace hn1 := Nat.le_trans hn1 (Nat.le_refl (_ + 1)); replace hG := hG.trans hg1; replace hO := ho1; clear ho1 hg1) | (go_at_call 99; refine (blankStart_any _ _ ?_).mono ?_; (unfold maxLen; omega); rintro e w' ⟨rfl, rfl⟩))
          go_roundw
          case rel => exact ⟨_, r2, m2, rfl, rfl, hO, hG, by omega, by omega, (fun h => by have := hlt2 h; omega), step_sp HT.out hsp2.out (pK_e _ _ HF3.out)⟩
          case measure => exact meas r r2 m2 _ hfr2 hlt2

theorem appendField_any (v : Value) (l : List UInt8) (name value eol : ByteArray) (lines : Bool) (w : World) (hown : Own w v l) (hb : l.length + name.size + value.size ≤ 1048576) (he : eol.size ≤ 2) :
    Calls Try.prog 81 #[v, .string name, .string value, .string eol, .bool lines] w fun e w' => ∃ v', e = .returned v' ∧ Own w' v' (l ++ encAll (bl eol) lines (bl name) (bl value)) ∧ Grows w w' v v' := by
  cases lines
  · exact appendField_f v l name value eol w hown hb he
  · exact appendField_t v l name value eol w hown hb he
end Go.Proofs.Qxb6001690a
