import Derived.Test.Qxb6001690aCut
import Derived.Lib.AppendStr
namespace Go.Proofs.Qxb6001690a
open Go.RowKit

/-- the cells of a row of bytes -/
def cs (l : List UInt8) : List Value := l.map fun b => Value.int .u8 b.toNat
theorem cs_append (a b : List UInt8) : cs (a ++ b) = cs a ++ cs b := by simp [cs]
theorem cs_length (a : List UInt8) : (cs a).length = a.length := by simp [cs]
theorem strCells_cs (s : ByteArray) : Lib.strCells s = cs (bl s) := rfl

/-- the slice value v holds the bytes l, in a row that is the call's own -/
def Own (w : World) (v : Value) (l : List UInt8) : Prop := w.ownsRow 0 5 1 v l.length (cs l)

/-- from w to w': new blocks, and writes to v's own row alone; v' lies there or in a new block -/
structure Grows (w w' : World) (v v' : Value) : Prop where
  grown : w.grownBy w' v.ownBlock
  at' : v'.ownBlock = v.ownBlock ∨ ∃ g, v'.ownBlock = some g ∧ w.heap.size ≤ g

theorem Grows.refl (w : World) (v : Value) : Grows w w v v := ⟨World.grownBy.refl _ _, .inl rfl⟩
theorem Grows.trans {w w1 w2 : World} {v v1 v2 : Value} (h : Grows w w1 v v1) (k : Grows w1 w2 v1 v2) : Grows w w2 v v2 := by
  refine ⟨⟨k.grown.os.trans h.grown.os, k.grown.tape.trans h.grown.tape, k.grown.output.trans h.grown.output, Nat.le_trans h.grown.size k.grown.size, fun i hi hne => ?_⟩, ?_⟩
  · rw [k.grown.block i (Nat.lt_of_lt_of_le hi h.grown.size) ?_, h.grown.block i hi hne]
    rcases h.at' with e | ⟨g, e, hg⟩
    · rw [e]; exact hne
    · rw [e]; intro e2; cases e2; omega
  · rcases k.at' with e | ⟨g, e, hg⟩
    · rw [e]; exact h.at'
    · exact .inr ⟨g, e, Nat.le_trans h.grown.size hg⟩
theorem Grows.alloc {w w1 : World} {v v1 : Value} (h : Grows w w1 v v1) (o : Obj) : Grows w (w1.alloc o) v v1 :=
  h.trans ⟨World.grownBy_alloc w1 o _, .inl rfl⟩
theorem Grows.drewN {w w1 : World} {v v1 : Value} (h : Grows w w1 v v1) (n : Nat) : Grows w (w1.drewN n) v v1 := by
  exact h.trans ⟨⟨rfl, rfl, rfl, Nat.le_refl _, fun _ _ _ => rfl⟩, .inl rfl⟩
theorem Own.alloc {w : World} {v : Value} {l : List UInt8} (h : Own w v l) (o : Obj) : Own (w.alloc o) v l := World.ownsRow.alloc h o
theorem Own.drewN {w : World} {v : Value} {l : List UInt8} (h : Own w v l) (n : Nat) : Own (w.drewN n) v l := by
  unfold Own World.ownsRow at *
  simpa using h

theorem Try.info5 : (Try.prog.info? 5).map (fun i => (i.zero, i.size, i.bytes)) = some (some (.int .u8 0), 1, 1) := by kernel_rfl

section
variable (w : World)
theorem run_ap_str (ty : TypeId) (v : Value) (l : List UInt8) (hown : Own w v l) (s : ByteArray) (hb : l.length + s.size ≤ 16777216) :
    ∃ v' w', (Builtin.append_ #[33, 9] ty #[v, .string s]).run Try.prog w = .ok v' w' ∧ Own w' v' (l ++ bl s) ∧ Grows w w' v v' := by
  obtain ⟨i, hi, hz, hz1, hz2⟩ := info_parts Try.info5
  obtain ⟨v', w', hr, h1, h2, h3⟩ := Lib.run_append_own_string (P := Try.prog) w 0 33 9 ty 5 i Try.underlying33 Try.underlying9 hi hz hz1 hz2 v l.length (cs l) hown s (by unfold maxLen; omega) (by omega) (Nat.zero_le _)
  refine ⟨v', w', hr, ?_, h2, ?_⟩
  · unfold Own
    rw [cs_append, List.length_append, bl_length]
    exact h1
  · rcases hown.2 with ⟨rfl, hn⟩ | ⟨g, cap, cur, rfl, hbg, hg, hnc, hcm, hcs, htake⟩
    · by_cases hm : s.size = 0
      · exact .inl (by rw [h3.2 ⟨rfl, hm⟩])
      · have hr' := run_append_nil_string (P := Try.prog) w 33 9 ty 5 i (.int .u8 0) Try.underlying33 Try.underlying9 hi hz s (by omega) (by omega) (by rw [hz2]; omega)
        rw [hr'] at hr
        cases hr
        exact .inr ⟨_, rfl, Nat.le_refl _⟩
    · by_cases hroom : l.length + s.size ≤ cap
      · have hr' := Lib.run_append_room_string (P := Try.prog) w 33 9 ty 5 i Try.underlying33 Try.underlying9 hi hz1 g l.length cap cur hg s hroom (by omega)
        rw [hr'] at hr
        cases hr
        exact .inl rfl
      · have holds : ∀ j u, (cs l)[j]? = some u → w.cell? ((⟨g, 0, none⟩ : Addr).add j) = some u := World.ownsRow.cells hown (g := g) rfl
        have hr' := Lib.run_append_grow_string (P := Try.prog) w 33 9 ty 5 i (.int .u8 0) Try.underlying33 Try.underlying9 hi hz ⟨g, 0, none⟩ l.length cap (cs l) (by rw [hz1, cs_length, Nat.mul_one]) holds s (by omega) (by omega) (by rw [hz2]; exact growslice_fits (by omega) (by omega))
        rw [hr'] at hr
        cases hr
        exact .inr ⟨_, rfl, Nat.le_refl _⟩

/-- one byte, laid in a new block of its own first -/
theorem run_ap_byte (ty : TypeId) (v : Value) (l : List UInt8) (hown : Own w v l) (b : UInt8) (ad : Addr) (c : Nat) (hc : w.cell? ad = some (.int .u8 b.toNat)) (hb : l.length + 1 ≤ 16777216) :
    ∃ v' w', (Builtin.append_ #[33, 33] ty #[v, .slice (some ad) 1 c]).run Try.prog w = .ok v' w' ∧ Own w' v' (l ++ [b]) ∧ Grows w w' v v' := by
  obtain ⟨i, hi, hz, hz1, hz2⟩ := info_parts Try.info5
  have hnews : ∀ j u, [Value.int .u8 b.toNat][j]? = some u → w.cell? (ad.add j) = some u := by
    intro j u hj
    match j, hj with
    | 0, hj => simp at hj; subst hj; rw [show ad.add 0 = ad by simp [Addr.add]]; exact hc
  have h1c : ∀ u ∈ [Value.int .u8 b.toNat], u.oneCell' = true := by intro u hu; simp at hu; subst hu; rfl
  obtain ⟨v', w', hr, h1, h2, h3⟩ := run_append_own (P := Try.prog) w 0 33 ty 5 i (.int .u8 0) 1 1 Try.underlying33 hi hz hz1 hz2 rfl (by decide) v l.length (cs l) hown ad 1 c [.int .u8 b.toNat] rfl hnews h1c (by unfold maxLen; omega) (by omega) (Nat.zero_le _)
  refine ⟨v', w', hr, ?_, h2, ?_⟩
  · unfold Own
    rw [cs_append, List.length_append]
    exact h1
  · rcases hown.2 with ⟨rfl, hn⟩ | ⟨g, cap, cur, rfl, hbg, hg, hnc, hcm, hcs, htake⟩
    · have hr' := run_append_nil (P := Try.prog) w 33 ty 5 i (.int .u8 0) Try.underlying33 hi hz ad 1 c [.int .u8 b.toNat] (by rw [hz1]; rfl) hnews (by omega) (by omega) (by rw [hz2]; omega)
      rw [hr'] at hr
      cases hr
      exact .inr ⟨_, rfl, Nat.le_refl _⟩
    · by_cases hroom : l.length + 1 ≤ cap
      · have hr' := run_append_room (P := Try.prog) w 33 ty 5 i Try.underlying33 hi g l.length cap cur hg ad 1 c [.int .u8 b.toNat] (by rw [hz1]; rfl) hnews h1c hroom (by rw [hz1]; simp at hcs ⊢; omega)
        rw [hr'] at hr
        cases hr
        exact .inl rfl
      · have holds : ∀ j u, (cs l)[j]? = some u → w.cell? ((⟨g, 0, none⟩ : Addr).add j) = some u := World.ownsRow.cells hown (g := g) rfl
        have hr' := run_append_grow (P := Try.prog) w 33 ty 5 i (.int .u8 0) Try.underlying33 hi hz ⟨g, 0, none⟩ l.length cap (cs l) (by rw [hz1, cs_length, Nat.mul_one]) holds ad 1 c [.int .u8 b.toNat] (by rw [hz1]; rfl) hnews (by omega) (by omega) (by rw [hz2]; exact growslice_fits (by omega) (by omega))
        rw [hr'] at hr
        cases hr
        exact .inr ⟨_, rfl, Nat.le_refl _⟩
end

/-- THE OPERATIONS, for the walk -/
theorem wp_ap_str (w : World) {ops : Array Oper} {rest : List Oper} {o : Oper} {a : Act} {Q : Exit → Act → World → Prop} (hgd : o.guard = none) (sl x : Operand)
    (ho : o.op = .call { callee := .builtin .append, args := #[sl, x], argTypes := #[33, 9] }) (v : Value) (l : List UInt8) (hs : a.eval sl = v) (hown : Own w v l) (s : ByteArray) (hx : a.eval x = .string s) (hb : l.length + s.size ≤ 16777216)
    (h : ∀ v' w', Own w' v' (l ++ bl s) → Grows w w' v v' → (l ++ bl s).length ≤ l.length + s.size → wpList Try.prog ops Q rest (a.put o.dst v') w') : wpList Try.prog ops Q (o :: rest) a w := by
  refine wpList_plain hgd fun K hK => ?_
  obtain ⟨v', w', hr, h2, h3⟩ := run_ap_str w o.type v l hown s hb
  unfold Oper.wp execOp
  simp only [ho, resolve, invoke, builtin, Sem.run_bind, Sem.run_pure, Result.andThen_ok, List.map_toArray, List.map_cons, List.map_nil, hs, hx, hr]
  exact hK _ _ (h v' w' h2 h3 (by rw [List.length_append, bl_length]; exact Nat.le_refl _))
theorem wp_ap_byte (w : World) {ops : Array Oper} {rest : List Oper} {o : Oper} {a : Act} {Q : Exit → Act → World → Prop} (hgd : o.guard = none) (sl x : Operand)
    (ho : o.op = .call { callee := .builtin .append, args := #[sl, x], argTypes := #[33, 33] }) (v : Value) (l : List UInt8) (hs : a.eval sl = v) (hown : Own w v l) (b : UInt8) (ad : Addr) (c : Nat) (hx : a.eval x = .slice (some ad) 1 c)
    (hc : w.cell? ad = some (.int .u8 b.toNat)) (hb : l.length + 1 ≤ 16777216)
    (h : ∀ v' w', Own w' v' (l ++ [b]) → Grows w w' v v' → (l ++ [b]).length ≤ l.length + 1 → wpList Try.prog ops Q rest (a.put o.dst v') w') : wpList Try.prog ops Q (o :: rest) a w := by
  refine wpList_plain hgd fun K hK => ?_
  obtain ⟨v', w', hr, h2, h3⟩ := run_ap_byte w o.type v l hown b ad c hc hb
  unfold Oper.wp execOp
  simp only [ho, resolve, invoke, builtin, Sem.run_bind, Sem.run_pure, Result.andThen_ok, List.map_toArray, List.map_cons, List.map_nil, hs, hx, hr]
  exact hK _ _ (h v' w' h2 h3 (by simp))
end Go.Proofs.Qxb6001690a
