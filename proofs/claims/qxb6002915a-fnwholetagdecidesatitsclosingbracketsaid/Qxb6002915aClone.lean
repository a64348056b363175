import Derived.Test.Qxb6002915aLeaf
namespace Go.Proofs.Qxb6002915a
open Go.RowKit
set_option linter.unusedVariables false

theorem Try.info5 : (Try.prog.info? 5).map (fun i => (i.zero, i.size, i.bytes)) = some (some (.int .u8 0), 1, 1) := by kernel_rfl
def cs (l : List UInt8) : List Value := l.map fun b => Value.int .u8 b.toNat
theorem cs_length (a : List UInt8) : (cs a).length = a.length := by simp [cs]
theorem grown_none {w w1 w2 : World} {g : Nat} (h : w.grownBy w1 none) (k : w1.grownBy w2 (some g)) (hg : w.heap.size ≤ g) : w.grownBy w2 none :=
  ⟨k.os.trans h.os, k.tape.trans h.tape, k.output.trans h.output, Nat.le_trans h.size k.size, fun i hi _ => by
    rw [k.block i (Nat.lt_of_lt_of_le hi h.size) (fun e => by cases e; omega), h.block i hi (by simp)]⟩
theorem nilEq (a : Option Addr) (n c : Nat) : ∀ w, (binOp .eql 22 (.slice a n c) (.slice none 0 0)).run Try.prog w = .ok (.bool a.isNone) w := fun w => Lib.run_eql_slice_nil w 22 5 a n c 0 0 Try.underlying22
theorem cs_get (l : List UInt8) (j : Nat) (h : j < l.length) : (cs l)[j]? = some (.int .u8 (l[j].toNat : Int)) := by simp [cs, h]
theorem fill_step {l : List UInt8} {xs : List Value} {k : Nat} (hk : k < l.length) (hx : ∀ j, j < k → xs[j]? = (cs l)[j]?) (hl : xs.length = l.length) :
    ∀ j, j < k + 1 → (xs.set k (.int .u8 (l[k].toNat : Int)))[j]? = (cs l)[j]? := by
  intro j hj
  rw [List.getElem?_set]
  split
  · rename_i e
    rw [if_pos (by omega), ← e, cs_get l k hk]
  · exact hx j (by omega)
theorem fill_end {l : List UInt8} {xs : List Value} (hx : ∀ j, j < l.length → xs[j]? = (cs l)[j]?) (hl : xs.length = l.length) : xs = cs l := by
  apply List.ext_getElem?
  intro j
  by_cases h : j < l.length
  · exact hx j h
  · rw [List.getElem?_eq_none (by omega), List.getElem?_eq_none (by rw [cs_length]; omega)]

set_option maxHeartbeats 400000 in
/-- zzClone at a slice that is not empty: its bytes in a new block, as many cells as bytes -/
theorem clone_any (l : List UInt8) (b off cap : Nat) (w : World) (hl : l.length ≤ 1048576) (hcell : ∀ j (h : j < l.length), w.cell? ⟨b, off + j, none⟩ = some (.int .u8 (l[j].toNat : Int))) :
    Calls Try.prog 7 #[.slice (some ⟨b, off, none⟩) l.length cap] w fun e w' => e = .returned (.slice (some ⟨w.heap.size, 0, none⟩) l.length l.length) ∧ Row w' w.heap.size l ∧ Below w.heap.size w w' := by
  have hn := nilEq (some ⟨b, off, none⟩) l.length cap
  obtain ⟨i, hi, hz, hz1, hz2⟩ := info_parts Try.info5
  have HC : Hid (∀ j (h : j < l.length), w.cell? ⟨b, off + j, none⟩ = some (.int .u8 (l[j].toNat : Int))) := hcell
  clear hcell
  go_enter Try.func7, Try.ntmps7
  go_wp2_with (at_make; refine wpList_make_full _ rfl _ _ 22 rfl 0 5 i (.int .u8 0) 1 Try.underlying22 hi hz hz1 _ _ _ _ l.length rfl rfl rfl rfl (by rw [hz2]; omega) (by unfold maxLen; omega) (Nat.zero_le _) ?_; intro w1 hown hgrow)
  go_loopw [4] (fun i wr => ∃ (k : Nat) (xs : List Value), k ≤ l.length ∧ i = .int .i64 k ∧ wr.ownsRow 0 5 1 (.slice (some ⟨w.heap.size, 0, none⟩) l.length l.length) l.length xs ∧ w.grownBy wr none ∧ Hid (∀ j, j < k → xs[j]? = (cs l)[j]?)) (fun i _ => l.length - (intOf i).toNat)
  case atStart => exact ⟨0, _, Nat.zero_le _, rfl, hown, hgrow, fun j hj => by omega⟩
  case round =>
    clear hown hgrow hn
    obtain ⟨k, xs, hk, rfl, hown, hgrow, hx⟩ := hrel
    by_cases hlt : k < l.length
    · have hc1 : wr.cell? ⟨b, off + k, none⟩ = some (.int .u8 (l[k].toNat : Int)) := hgrow.cell (HC.out k hlt) (by simp)
      have hf := hown.frozenAt k
      have hxl : xs.length = l.length := by simpa using hown.1
      have hc2 : wr.cell? ⟨w.heap.size, k, none⟩ = some xs[k] := by rw [hown.cellAt k (by omega)]; exact List.getElem?_eq_getElem (by omega)
      have hst := hown.stored k (.int .u8 (l[k].toNat : Int))
      go_wp2
      go_roundw
      case rel => exact ⟨k + 1, _, by omega, by go_num, hst.1, grown_none hgrow hst.2 (Nat.le_refl _), fill_step hlt hx.out hxl⟩
      case measure => simp [intOf]; omega
    · have hkl : k = l.length := by omega
      have HK : Hid (k = l.length) := hkl
      clear hkl
      go_wp2
      go_ret
      have hxl : xs.length = l.length := by simpa using hown.1
      have e : xs = cs l := fill_end (fun j hj => hx.out j (by rw [HK.out]; exact hj)) hxl
      subst e
      refine ⟨rfl, fun j hj => ?_, ⟨hgrow.os, hgrow.tape, hgrow.output, hgrow.size, fun k hk => hgrow.block k hk (by simp)⟩⟩
      rw [hown.cellAt j (by omega), cs_get l j hj]

set_option maxHeartbeats 400000 in
theorem bytes10 (a : Option Addr) (n c : Nat) (w : World) (hn : n ≤ maxLen) : Calls Try.prog 10 #[.slice a n c] w fun e w' => e = .returned (.bool (decide (n ≤ 1048576))) ∧ w' = w := by
  unfold maxLen at hn
  by_cases h : n ≤ 1048576
  · have HD : Hid (decide (n ≤ 1048576) = true) := decide_eq_true h
    go_enter Try.func10, Try.ntmps10
    go_wp2
    go_ret
    first | exact ⟨rfl, rfl⟩ | exact ⟨ret_bool HD.out.symm, rfl⟩
  · have HD : Hid (decide (n ≤ 1048576) = false) := decide_eq_false h
    go_enter Try.func10, Try.ntmps10
    go_wp2
    go_ret
    first | exact ⟨rfl, rfl⟩ | exact ⟨ret_bool HD.out.symm, rfl⟩
set_option maxHeartbeats 400000 in
theorem bytes13 (a : Option Addr) (n c : Nat) (w : World) (hn : n ≤ maxLen) : Calls Try.prog 13 #[.slice a n c] w fun e w' => e = .returned (.bool (decide (n ≤ 1048576))) ∧ w' = w := by
  unfold maxLen at hn
  by_cases h : n ≤ 1048576
  · have HD : Hid (decide (n ≤ 1048576) = true) := decide_eq_true h
    go_enter Try.func13, Try.ntmps13
    go_wp2
    go_ret
    first | exact ⟨rfl, rfl⟩ | exact ⟨ret_bool HD.out.symm, rfl⟩
  · have HD : Hid (decide (n ≤ 1048576) = false) := decide_eq_false h
    go_enter Try.func13, Try.ntmps13
    go_wp2
    go_ret
    first | exact ⟨rfl, rfl⟩ | exact ⟨ret_bool HD.out.symm, rfl⟩
end Go.Proofs.Qxb6002915a
