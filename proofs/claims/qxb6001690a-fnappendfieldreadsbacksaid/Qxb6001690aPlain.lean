/-
  THE PLAIN LAW of FnAppendFieldReadsBack: lists of bytes; no Go in sight.
-/
namespace Go.Proofs.Qxb6001690a

def bl (s : ByteArray) : List UInt8 := s.data.toList

def hasB (l : List UInt8) (c : Int) : Bool := l.any fun b => (b.toNat : Int) == c

def blank (b : UInt8) : Bool := b == 32 || b == 9
def blankN : List UInt8 → Nat
  | [] => 0
  | b :: t => if blank b = true then blankN t + 1 else 0
def trimL (l : List UInt8) : List UInt8 := l.drop (blankN l)

def splitNL : List UInt8 → List (List UInt8)
  | [] => [[]]
  | b :: t => if b = 10 then [] :: splitNL t else match splitNL t with
    | [] => [[b]]
    | h :: r => (b :: h) :: r

theorem splitNL_end : ∀ (a : List UInt8), (10 : UInt8) ∉ a → splitNL a = [a]
  | [], _ => rfl
  | b :: t, h => by
    have hb : b ≠ 10 := fun e => h (by simp [e])
    have ht : (10 : UInt8) ∉ t := fun e => h (by simp [e])
    simp [splitNL, hb, splitNL_end t ht]

theorem splitNL_hit : ∀ (a b : List UInt8), (10 : UInt8) ∉ a → splitNL (a ++ 10 :: b) = a :: splitNL b
  | [], b, _ => by simp [splitNL]
  | c :: t, b, h => by
    have hc : c ≠ 10 := fun e => h (by simp [e])
    have ht : (10 : UInt8) ∉ t := fun e => h (by simp [e])
    simp [splitNL, hc, splitNL_hit t b ht]

theorem splitNL_ne : ∀ (a : List UInt8), splitNL a ≠ []
  | [] => by simp [splitNL]
  | b :: t => by
    unfold splitNL
    split
    · simp
    · split <;> simp

/-- what strings.Cut at a line feed gives -/
theorem split_cases : ∀ (l : List UInt8), (10 : UInt8) ∉ l ∨ ∃ a b, l = a ++ 10 :: b ∧ (10 : UInt8) ∉ a
  | [] => .inl (by simp)
  | c :: t => by
    by_cases hc : c = 10
    · exact .inr ⟨[], t, by simp [hc], by simp⟩
    · rcases split_cases t with h | ⟨a, b, e1, e2⟩
      · refine .inl fun hm => ?_
        rcases List.mem_cons.1 hm with e | e
        · exact hc e.symm
        · exact h e
      · refine .inr ⟨c :: a, b, by simp [e1], fun hm => ?_⟩
        rcases List.mem_cons.1 hm with e | e
        · exact hc e.symm
        · exact e2 e

theorem mem_splitNL : ∀ (l p : List UInt8), p ∈ splitNL l → (10 : UInt8) ∉ p ∧ ∀ c ∈ p, c ∈ l
  | [], p, h => by simp [splitNL] at h; subst h; simp
  | b :: t, p, h => by
    have ih := fun p => mem_splitNL t p
    unfold splitNL at h
    split at h
    · rcases List.mem_cons.1 h with e | e
      · subst e; simp
      · exact ⟨(ih p e).1, fun c hc => List.mem_cons_of_mem _ ((ih p e).2 c hc)⟩
    · rename_i hb
      split at h
      · exact absurd (by assumption) (splitNL_ne t)
      · rename_i hd r e0
        rcases List.mem_cons.1 h with e | e
        · subst e
          have := ih hd (by rw [e0]; simp)
          refine ⟨?_, ?_⟩
          · intro hm
            rcases List.mem_cons.1 hm with e | e
            · exact hb e.symm
            · exact this.1 e
          · intro c hc
            rcases List.mem_cons.1 hc with e | e
            · simp [e]
            · exact List.mem_cons_of_mem _ (this.2 c e)
        · have := ih p (by rw [e0]; simp [e])
          exact ⟨this.1, fun c hc => List.mem_cons_of_mem _ (this.2 c hc)⟩

/-- lengths: all the lines and one more each -/
theorem splitNL_len : ∀ (l : List UInt8), ((splitNL l).map List.length).sum + (splitNL l).length = l.length + 1
  | [] => by simp [splitNL]
  | b :: t => by
    have ih := splitNL_len t
    unfold splitNL
    split
    · simp; omega
    · split
      · exact absurd (by assumption) (splitNL_ne t)
      · rename_i e0
        rw [e0] at ih
        simp at ih ⊢
        omega

def piece0 (name first : List UInt8) : List UInt8 := name ++ 58 :: (if first = [] then [] else 32 :: first)
def pieceK (lines : Bool) (line : List UInt8) : List UInt8 := (if lines = true ∨ blankN line = 0 then [32] else []) ++ (if line = [] then [46] else line)
def pieceAt (lines : Bool) (name : List UInt8) (k : Nat) (line : List UInt8) : List UInt8 := if k = 0 then piece0 name line else pieceK lines line

def encTail (eol : List UInt8) (lines : Bool) : List (List UInt8) → List UInt8
  | [] => []
  | l :: r => eol ++ pieceK lines l ++ encTail eol lines r

def encFrom (eol : List UInt8) (lines : Bool) (name : List UInt8) : Nat → List (List UInt8) → List UInt8
  | _, [] => []
  | k, l :: r => pieceAt lines name k l ++ eol ++ encFrom eol lines name (k + 1) r

def encAll (eol : List UInt8) (lines : Bool) (name value : List UInt8) : List UInt8 := encFrom eol lines name 0 (splitNL value)

theorem encTail_from (eol : List UInt8) (lines : Bool) (name : List UInt8) : ∀ (r : List (List UInt8)) (k : Nat), 0 < k → encTail eol lines r ++ eol = eol ++ encFrom eol lines name k r
  | [], k, _ => by simp [encTail, encFrom]
  | l :: r, k, h => by
    have ih := encTail_from eol lines name r (k + 1) (by omega)
    have hk : k ≠ 0 := by omega
    simp only [encTail, encFrom, pieceAt, if_neg hk, List.append_assoc, ih]

theorem enc_first (eol : List UInt8) (lines : Bool) (name first : List UInt8) (rest : List (List UInt8)) :
    piece0 name first ++ encTail eol lines rest ++ eol = encFrom eol lines name 0 (first :: rest) := by
  simp only [encFrom, pieceAt, List.append_assoc, encTail_from eol lines name rest (0 + 1) (by omega), if_pos]

/-- lengths -/
theorem pieceK_len (lines : Bool) (l : List UInt8) : (pieceK lines l).length ≤ l.length + 2 := by
  unfold pieceK
  by_cases h : l = []
  · subst h; split <;> simp
  · rw [if_neg h]; split <;> simp
theorem piece0_len (name l : List UInt8) : (piece0 name l).length ≤ name.length + l.length + 2 := by
  unfold piece0
  by_cases h : l = []
  · subst h; simp
  · rw [if_neg h]; simp; omega
theorem encTail_len (eol : List UInt8) (lines : Bool) (he : eol.length ≤ 2) : ∀ (r : List (List UInt8)), (encTail eol lines r).length ≤ (r.map List.length).sum + 4 * r.length
  | [] => by simp [encTail]
  | l :: r => by
    have ih := encTail_len eol lines he r
    have := pieceK_len lines l
    simp [encTail] at ih ⊢
    omega

end Go.Proofs.Qxb6001690a
