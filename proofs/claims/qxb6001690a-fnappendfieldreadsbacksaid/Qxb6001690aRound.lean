import Derived.Test.Qxb6001690aClone
import Derived.Test.Qxb6001690aSplit
import Derived.Test.Qxb6001690aField
import Derived.Lib.SlBytesRow
/- THE ROUND's PLAIN FACTS, and the bridges from rows to lists -/
namespace Go.Proofs.Qxb6001690a
open Go.RowKit

/-- where the line feed of this piece stands -/
theorem round_facts {T P rest : List UInt8} {pos : Nat} (h : T.drop pos = P ++ [10] ++ rest) (h10 : (10 : UInt8) ∉ P) :
    pos + P.length < T.length ∧ (∀ j, pos ≤ j → j < pos + P.length → T[j]? ≠ some 10) ∧ T[pos + P.length]? = some 10 ∧ (T.drop pos).take P.length = P ∧ T.drop (pos + P.length + 1) = rest := by
  have hl := congrArg List.length h
  simp only [List.length_drop, List.length_append, List.length_cons, List.length_nil] at hl
  have hg : ∀ j, T[pos + j]? = (P ++ [10] ++ rest)[j]? := fun j => by rw [← h, List.getElem?_drop]
  refine ⟨by omega, fun j h1 h2 => ?_, ?_, ?_, ?_⟩
  · have := hg (j - pos)
    rw [show pos + (j - pos) = j by omega] at this
    rw [this, List.append_assoc, List.getElem?_append_left (by omega)]
    intro e
    exact h10 (List.mem_of_getElem? e)
  · rw [hg P.length, List.append_assoc, List.getElem?_append_right (Nat.le_refl _)]
    simp
  · rw [h, List.append_assoc, List.take_left]
  · rw [show pos + P.length + 1 = pos + (P.length + 1) by omega, ← List.drop_drop, h, List.append_assoc, List.drop_append]
    simp

theorem encFrom_step {T : List UInt8} {pos k : Nat} {eol name : List UInt8} {lines : Bool} {L : List (List UInt8)} (h : T.drop pos = encFrom eol lines name k (L.drop k)) (hk : k < L.length) :
    T.drop pos = pieceAt lines name k L[k] ++ eol ++ encFrom eol lines name (k + 1) (L.drop (k + 1)) := by
  rw [h, List.drop_eq_getElem_cons hk, encFrom]

theorem hasB_false {l : List UInt8} {c : UInt8} (h : hasB l (c.toNat : Int) = false) : c ∉ l := by
  intro hm
  have : hasB l (c.toNat : Int) = true := by
    unfold hasB
    rw [List.any_eq_true]
    exact ⟨c, hm, by simp⟩
  rw [h] at this
  cases this

theorem no10 {name line : List UInt8} (lines : Bool) (k : Nat) (hn : (10 : UInt8) ∉ name) (hl : (10 : UInt8) ∉ line) : (10 : UInt8) ∉ pieceAt lines name k line := by
  unfold pieceAt piece0 pieceK
  split
  · split <;> simp_all
  · split <;> split <;> simp_all
theorem piece_ne {name line : List UInt8} (lines : Bool) (k : Nat) : 0 < (pieceAt lines name k line).length := by
  unfold pieceAt piece0 pieceK
  split
  · simp; omega
  · by_cases h : line = []
    · simp [h]
    · rw [if_neg h]
      have := List.length_pos_iff.2 h
      simp; omega

theorem enc_len (eol name value : List UInt8) (lines : Bool) (he : eol.length ≤ 2) : (encAll eol lines name value).length ≤ name.length + 6 * value.length + 12 := by
  have h1 := splitNL_len value
  match h : splitNL value, splitNL_ne value with
  | f :: r, _ =>
    rw [h] at h1
    rw [encAll, h, ← enc_first]
    have h2 := piece0_len name f
    have h3 := encTail_len eol lines he r
    simp at h1 ⊢
    omega
theorem enc_pos (eol name value : List UInt8) (lines : Bool) : 0 < (encAll eol lines name value).length := by
  match h : splitNL value, splitNL_ne value with
  | f :: r, _ =>
    rw [encAll, h, ← enc_first, piece0]
    simp; omega

/-- a slice that can be cloned -/
def Src (w : World) (v : Value) (l : List UInt8) : Prop :=
  (v = .slice none 0 0 ∧ l = []) ∨ ∃ ad cap, v = .slice (some ad) l.length cap ∧ (0 < l.length → ∃ b off, ad = ⟨b, off, none⟩ ∧ b < w.heap.size ∧ ∀ j (h : j < l.length), w.cell? ⟨b, off + j, none⟩ = some (.int .u8 (l[j].toNat : Int)))

theorem own_cell {w : World} {g : Nat} {cap : Nat} {l : List UInt8} (h : Own w (.slice (some ⟨g, 0, none⟩) l.length cap) l) (j : Nat) (hj : j < l.length) : w.cell? ⟨g, j, none⟩ = some (.int .u8 (l[j].toNat : Int)) := by
  rw [World.ownsRow.cellAt h j (by omega), cs_get l j hj]
theorem own_lt {w : World} {g : Nat} {cap n : Nat} {l : List UInt8} (h : Own w (.slice (some ⟨g, 0, none⟩) n cap) l) : g < w.heap.size := (World.ownsRow.lt h g rfl).2

theorem own_src {w : World} {v : Value} {l : List UInt8} (h : Own w v l) : Src w v l := by
  rcases h.2 with ⟨rfl, hn⟩ | ⟨g, cap, cur, rfl, _⟩
  · exact .inl ⟨rfl, List.eq_nil_of_length_eq_zero hn⟩
  · exact .inr ⟨_, _, rfl, fun _ => ⟨g, 0, rfl, own_lt h, fun j hj => by rw [Nat.zero_add]; exact own_cell h j hj⟩⟩

theorem clone_any (v : Value) (l : List UInt8) (w : World) (hl : l.length ≤ 1048576) (hs : Src w v l) :
    Calls Try.prog 26 #[v] w fun e w' => ∃ v', e = .returned v' ∧ Own w' v' l ∧ w.grownBy w' none ∧ (v'.ownBlock = none ∨ v'.ownBlock = some w.heap.size) := by
  rcases hs with ⟨rfl, rfl⟩ | ⟨ad, cap, rfl, hc⟩
  · refine (clone_nil w).mono ?_
    rintro e w' ⟨rfl, rfl⟩
    exact ⟨_, rfl, World.ownsRow_nil _ _ _ _, World.grownBy.refl _ _, .inl rfl⟩
  · refine (clone_some l ad cap w hl hc).mono ?_
    rintro e w' ⟨rfl, h1, h2⟩
    exact ⟨_, rfl, h1, h2, .inr rfl⟩
end Go.Proofs.Qxb6001690a
