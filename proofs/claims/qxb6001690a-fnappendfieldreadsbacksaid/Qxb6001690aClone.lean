import Derived.Test.Qxb6001690aAppend
namespace Go.Proofs.Qxb6001690a
open Go.RowKit

theorem grown_none {w w1 w2 : World} {g : Nat} (h : w.grownBy w1 none) (k : w1.grownBy w2 (some g)) (hg : w.heap.size ≤ g) : w.grownBy w2 none :=
  ⟨k.os.trans h.os, k.tape.trans h.tape, k.output.trans h.output, Nat.le_trans h.size k.size, fun i hi _ => by
    rw [k.block i (Nat.lt_of_lt_of_le hi h.size) (fun e => by cases e; omega), h.block i hi (by simp)]⟩

theorem nilEq (a : Option Addr) (n c : Nat) : ∀ w, (binOp .eql 33 (.slice a n c) (.slice none 0 0)).run Try.prog w = .ok (.bool a.isNone) w := fun w => Lib.run_eql_slice_nil w 33 5 a n c 0 0 Try.underlying33

set_option maxHeartbeats 400000 in
theorem clone_nil (w : World) : Calls Try.prog 26 #[.slice none 0 0] w fun e w' => e = .returned (.slice none 0 0) ∧ w' = w := by
  have hn := nilEq none 0 0
  go_enter Try.func26, Try.ntmps26
  go_wp2
  go_ret
  exact ⟨rfl, rfl⟩

theorem cs_get (l : List UInt8) (j : Nat) (h : j < l.length) : (cs l)[j]? = some (.int .u8 (l[j].toNat : Int)) := by simp [cs, h]
theorem fill_step {l : List UInt8} {xs : List Value} {k : Nat} (hk : k < l.length) (hx : ∀ j, j < k → xs[j]? = (cs l)[j]?) (hl : xs.length = l.length) :
    ∀ j, j < k + 1 → (xs.set k (.int .u8 (l[k].toNat : Int)))[j]? = (cs l)[j]? := by
  intro j hj
  rw [List.getElem?_set]
  split
  · rename_i e
    rw [if_pos (by omega), ← e, cs_get l k hk]
  · exact hx j (by omega)
theorem fill_end {l : List UInt8} {xs : List Value} (hx : ∀ j, j < l.length → xs[j]? = (cs l)[j]?) (hl : xs.length = l.length) : xs = cs l := by
  apply List.ext_getElem?
  intro j
  by_cases h : j < l.length
  · exact hx j h
  · rw [List.getElem?_eq_none (by omega), List.getElem?_eq_none (by rw [cs_length]; omega)]

set_option maxHeartbeats 400000 in
theorem clone_some (l : List UInt8) (ad : Addr) (cap : Nat) (w : World) (hl : l.length ≤ 1048576)
    (hc : 0 < l.length → ∃ b off, ad = ⟨b, off, none⟩ ∧ b < w.heap.size ∧ ∀ j (h : j < l.length), w.cell? ⟨b, off + j, none⟩ = some (.int .u8 (l[j].toNat : Int))) :
    Calls Try.prog 26 #[.slice (some ad) l.length cap] w fun e w' => e = .returned (.slice (some ⟨w.heap.size, 0, none⟩) l.length l.length) ∧ w'.ownsRow 0 5 1 (.slice (some ⟨w.heap.size, 0, none⟩) l.length l.length) l.length (cs l) ∧ w.grownBy w' none := by
  have hn := nilEq (some ad) l.length cap
  obtain ⟨i, hi, hz, hz1, hz2⟩ := info_parts Try.info5
  have HC : Hid (0 < l.length → ∃ b off, ad = ⟨b, off, none⟩ ∧ b < w.heap.size ∧ ∀ j (h : j < l.length), w.cell? ⟨b, off + j, none⟩ = some (.int .u8 (l[j].toNat : Int))) := hc
  clear hc
  go_enter Try.func26, Try.ntmps26
  go_wp2_with (at_make; refine wpList_make_full _ rfl _ _ 33 rfl 0 5 i (.int .u8 0) 1 Try.underlying33 hi hz hz1 _ _ _ _ l.length rfl rfl rfl rfl (by rw [hz2]; omega) (by unfold maxLen; omega) (Nat.zero_le _) ?_; intro w1 hown hgrow)
  go_loopw [4] (fun i wr => ∃ (k : Nat) (xs : List Value), k ≤ l.length ∧ i = .int .i64 k ∧ wr.ownsRow 0 5 1 (.slice (some ⟨w.heap.size, 0, none⟩) l.length l.length) l.length xs ∧ w.grownBy wr none ∧ Hid (∀ j, j < k → xs[j]? = (cs l)[j]?)) (fun i _ => l.length - (intOf i).toNat)
  case atStart => exact ⟨0, _, Nat.zero_le _, rfl, hown, hgrow, fun j hj => by omega⟩
  case round =>
    clear hown hgrow hn
    obtain ⟨k, xs, hk, rfl, hown, hgrow, hx⟩ := hrel
    by_cases hlt : k < l.length
    · obtain ⟨b, off, rfl, hb, hcell⟩ := HC.out (by omega)
      have hc1 : wr.cell? ⟨b, off + k, none⟩ = some (.int .u8 (l[k].toNat : Int)) := hgrow.cell (hcell k hlt) (by simp)
      have hf := hown.frozenAt k
      have hxl : xs.length = l.length := by simpa using hown.1
      have hc2 : wr.cell? ⟨w.heap.size, k, none⟩ = some xs[k] := by rw [hown.cellAt k (by omega)]; exact List.getElem?_eq_getElem (by omega)
      have hst := hown.stored k (.int .u8 (l[k].toNat : Int))
      clear hcell
      go_wp2
      go_roundw
      case rel => exact ⟨k + 1, _, by omega, by go_num, hst.1, grown_none hgrow hst.2 (Nat.le_refl _), fill_step hlt hx.out hxl⟩
      case measure => simp [intOf]; omega
    · have hkl : k = l.length := by omega
      have HK : Hid (k = l.length) := hkl
      clear hkl
      go_wp2
      go_ret
      have hxl : xs.length = l.length := by simpa using hown.1
      have e : xs = cs l := fill_end (fun j hj => hx.out j (by rw [HK.out]; exact hj)) hxl
      exact ⟨rfl, by rw [← e]; exact hown, hgrow⟩
end Go.Proofs.Qxb6001690a
