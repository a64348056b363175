import Derived.Test.Qxb6001690aAppend
namespace Go.Proofs.Qxb6001690a
open Go.RowKit

theorem Try.info9 : (Try.prog.info? 9).map (fun i => (i.zero, i.size, i.bytes)) = some (some (.string ⟨#[]⟩), 1, 16) := by kernel_rfl

theorem drop_split (s : ByteArray) (st k : Nat) (hst : st ≤ k) (hk : k < s.size) : (bl s).drop st = ((bl s).drop st).take (k - st) ++ s[k] :: (bl s).drop (k + 1) := by
  have h := bl_drop s k hk
  conv => lhs; rw [← List.take_append_drop (k - st) ((bl s).drop st)]
  rw [List.drop_drop, show st + (k - st) = k by omega, h]
theorem byte10 (b : UInt8) (h : ((b.toNat : Int) == 10) = true) : b = 10 := by
  have : b.toNat = 10 := by have := beq_iff_eq.1 h; omega
  exact UInt8.toNat_inj.1 this
theorem byte10n (b : UInt8) (h : ((b.toNat : Int) == 10) = false) : b ≠ 10 := by
  rintro rfl
  simp at h
theorem sp_hit {s : ByteArray} {st k : Nat} {ps : List ByteArray} (hst : st ≤ k) (hk : k < s.size) (h : ((s[k].toNat : Int) == 10) = true) (H : ps.map bl ++ splitNL ((bl s).drop st) = splitNL (bl s)) (hn : (10 : UInt8) ∉ ((bl s).drop st).take (k - st)) :
    (ps ++ [s.extract st k]).map bl ++ splitNL ((bl s).drop (k + 1)) = splitNL (bl s) := by
  rw [← H]
  have e := drop_split s st k hst hk
  rw [byte10 _ h] at e
  conv => rhs; rw [e, splitNL_hit _ _ hn]
  simp [bl_extract]
theorem sp_miss {s : ByteArray} {st k : Nat} (hst : st ≤ k) (hk : k < s.size) (h : ((s[k].toNat : Int) == 10) = false) (hn : (10 : UInt8) ∉ ((bl s).drop st).take (k - st)) :
    (10 : UInt8) ∉ ((bl s).drop st).take (k + 1 - st) := by
  have e : ((bl s).drop st).take (k + 1 - st) = ((bl s).drop st).take (k - st) ++ [s[k]] := by
    have e1 := drop_split s st k hst hk
    have hl : (((bl s).drop st).take (k - st)).length = k - st := by rw [List.length_take, List.length_drop, bl_length]; omega
    conv => lhs; rw [e1, List.take_append, hl]
    rw [List.take_of_length_le (by omega), show k + 1 - st - (k - st) = 1 by omega]
    rfl
  rw [e]
  intro hm
  rcases List.mem_append.1 hm with x | x
  · exact hn x
  · exact byte10n _ h (List.mem_singleton.1 x).symm
theorem sp_end {s : ByteArray} {st : Nat} {ps : List ByteArray} (H : ps.map bl ++ splitNL ((bl s).drop st) = splitNL (bl s)) (hn : (10 : UInt8) ∉ ((bl s).drop st).take (s.size - st)) :
    (ps ++ [s.extract st s.size]).map bl = splitNL (bl s) := by
  rw [List.take_of_length_le (by rw [List.length_drop, bl_length]; omega)] at hn
  rw [← H, splitNL_end _ hn]
  simp [bl_tail]
theorem own_snoc {w : World} {B : Nat} {v : Value} {ps : List ByteArray} {x : ByteArray} (h : w.ownsRow B 9 1 v (ps.length + 1) (ps.map Value.string ++ [.string x])) : w.ownsRow B 9 1 v (ps ++ [x]).length ((ps ++ [x]).map Value.string) := by simpa using h

set_option maxHeartbeats 800000 in
theorem splitNL_any (s : ByteArray) (w : World) (hs : s.size ≤ 1048576) :
    Calls Try.prog 28 #[.string s] w fun e w' => ∃ (v : Value) (ps : List ByteArray), e = .returned v ∧ w'.ownsRow w.heap.size 9 1 v ps.length (ps.map Value.string) ∧ Below w.heap.size w w' ∧ ps.map bl = splitNL (bl s) := by
  obtain ⟨i, hi, hz, hz1, hz2⟩ := info_parts Try.info9
  go_enter Try.func28, Try.ntmps28
  go_wp2
  go_loopw [3, 4, 5] (fun v a b wr => ∃ (k st : Nat) (ps : List ByteArray), k ≤ s.size ∧ st ≤ k ∧ ps.length ≤ k ∧ a = .int .i64 st ∧ b = .int .i64 k ∧ wr.ownsRow w.heap.size 9 1 v ps.length (ps.map Value.string) ∧ Below w.heap.size w wr ∧
      Hid (ps.map bl ++ splitNL ((bl s).drop st) = splitNL (bl s)) ∧ Hid ((10 : UInt8) ∉ ((bl s).drop st).take (k - st))) (fun _ _ b _ => s.size - (intOf b).toNat)
  case atStart => exact ⟨0, 0, [], Nat.zero_le _, Nat.zero_le _, Nat.zero_le _, rfl, rfl, World.ownsRow_nil _ _ _ _, Below.refl _ _, rfl, by show _ ∉ _; simp⟩
  case round =>
    obtain ⟨k, st, ps, hk, hst, hps, rfl, rfl, hown, hbel, H, hn⟩ := hrel
    have hsz := hbel.size
    by_cases hlt : k < s.size
    · cases ht : ((s[k].toNat : Int) == 10)
      · have hn' : Hid ((10 : UInt8) ∉ ((bl s).drop st).take (k + 1 - st)) := sp_miss hst hlt ht hn.out
        go_wp2
        go_roundw
        case rel => exact ⟨k + 1, st, ps, by omega, by omega, by omega, rfl, by go_num, hown, hbel, H, hn'⟩
        case measure => simp [intOf]; omega
      · have H' : Hid ((ps ++ [s.extract st k]).map bl ++ splitNL ((bl s).drop (k + 1)) = splitNL (bl s)) := sp_hit hst hlt ht H.out hn.out
        go_wp2_with (at_builtin; refine wpList_append_own _ rfl _ _ 22 rfl w.heap.size 9 i (.string ⟨#[]⟩) 1 16 Try.underlying22 hi hz hz1 hz2 rfl (by decide) _ _ _ rfl (hown.alloc _) ⟨wr.heap.size, 0, none⟩ 1 1 [.string (s.extract st k)] rfl rfl (cell_one_new _ _ _) (by intro u hu; simp at hu; subst hu; rfl) (by unfold maxLen; omega) (by omega) (by simp; omega) ?_; intro v' w1 hown' hgrow _)
        have hb' : Below w.heap.size w w1 := (hbel.alloc (by omega) _).grown hgrow (by simp; omega) (fun k hk => (hown.lt k hk).1)
        clear hgrow hown hbel
        go_wp2
        go_roundw
        case rel => exact ⟨k + 1, k + 1, _, by omega, by omega, by simp; omega, by go_num, by go_num, own_snoc hown', hb', H', by show _ ∉ _; simp⟩
        case measure => simp [intOf]; omega
    · go_wp2_with (at_builtin; refine wpList_append_own _ rfl _ _ 22 rfl w.heap.size 9 i (.string ⟨#[]⟩) 1 16 Try.underlying22 hi hz hz1 hz2 rfl (by decide) _ _ _ rfl (hown.alloc _) ⟨wr.heap.size, 0, none⟩ 1 1 [.string (s.extract st s.size)] rfl rfl (cell_one_new _ _ _) (by intro u hu; simp at hu; subst hu; rfl) (by unfold maxLen; omega) (by omega) (by simp; omega) ?_; intro v' w1 hown' hgrow _)
      have hb' : Below w.heap.size w w1 := (hbel.alloc (by omega) _).grown hgrow (by simp; omega) (fun k hk => (hown.lt k hk).1)
      go_wp2
      go_ret
      have hks : k = s.size := by omega
      exact ⟨_, _, rfl, own_snoc hown', hb', sp_end H.out (by rw [← hks]; exact hn.out)⟩
end Go.Proofs.Qxb6001690a
