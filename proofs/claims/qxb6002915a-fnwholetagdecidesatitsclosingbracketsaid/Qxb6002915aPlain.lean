/-
  THE PLAIN LAWS of wholeTag: the tag automaton over a list of bytes; no Go in sight.
-/
namespace Go.Proofs.Qxb6002915a

def letter (b : UInt8) : Bool := (decide (97 ≤ b.toNat) && decide (b.toNat ≤ 122)) || (decide (65 ≤ b.toNat) && decide (b.toNat ≤ 90))
def digit (b : UInt8) : Bool := decide (48 ≤ b.toNat) && decide (b.toNat ≤ 57)
/-- the byte is n, as the walk spells it -/
def eqb (b : UInt8) (n : Int) : Bool := (b.toNat : Int) == n
def white (b : UInt8) : Bool := eqb b 32 || eqb b 9 || eqb b 11 || eqb b 12
def unq (b : UInt8) : Bool := decide (32 < b.toNat) && !eqb b 34 && !eqb b 39 && !eqb b 61 && !eqb b 60 && !eqb b 62 && !eqb b 96
def nameC (b : UInt8) : Bool := letter b || digit b || eqb b 45
def attrS (b : UInt8) : Bool := letter b || eqb b 95 || eqb b 58
def attrC (b : UInt8) : Bool := letter b || digit b || eqb b 95 || eqb b 46 || eqb b 58 || eqb b 45

/-- one step of the automaton, in the order of the Go text -/
def step (st : Nat) (b : UInt8) : Nat × Bool :=
  match st with
  | 0 => if eqb b 47 = true then (11, false) else if letter b = true then (1, false) else (14, false)
  | 1 => if nameC b = true then (1, false) else if white b = true then (2, false) else if eqb b 62 = true then (14, true) else if eqb b 47 = true then (3, false) else (14, false)
  | 2 => if white b = true then (2, false) else if eqb b 62 = true then (14, true) else if eqb b 47 = true then (3, false) else if attrS b = true then (4, false) else (14, false)
  | 3 => if eqb b 62 = true then (14, true) else (14, false)
  | 4 => if attrC b = true then (4, false) else if white b = true then (5, false) else if eqb b 61 = true then (6, false) else if eqb b 62 = true then (14, true) else if eqb b 47 = true then (3, false) else (14, false)
  | 5 => if white b = true then (5, false) else if eqb b 61 = true then (6, false) else if eqb b 62 = true then (14, true) else if eqb b 47 = true then (3, false) else if attrS b = true then (4, false) else (14, false)
  | 6 => if white b = true then (6, false) else if eqb b 34 = true then (7, false) else if eqb b 39 = true then (8, false) else if unq b = true then (9, false) else (14, false)
  | 7 => if eqb b 34 = true then (10, false) else (7, false)
  | 8 => if eqb b 39 = true then (10, false) else (8, false)
  | 9 => if unq b = true then (9, false) else if white b = true then (2, false) else if eqb b 62 = true then (14, true) else (14, false)
  | 10 => if eqb b 62 = true then (14, true) else if eqb b 47 = true then (3, false) else if white b = true then (2, false) else (14, false)
  | 11 => if letter b = true then (12, false) else (14, false)
  | 12 => if nameC b = true then (12, false) else if white b = true then (13, false) else if eqb b 62 = true then (14, true) else (14, false)
  | 13 => if white b = true then (13, false) else if eqb b 62 = true then (14, true) else (14, false)
  | _ => (14, false)

theorem step_lt (st : Nat) (b : UInt8) : (step st b).1 < 15 := by
  unfold step
  split <;> (repeat' split) <;> decide

def run : Nat → Nat → List UInt8 → Nat
  | _, _, [] => 0
  | st, p, b :: t => if (step st b).2 = true then p + 1 else if (step st b).1 = 14 then 0 else run (step st b).1 (p + 1) t

/-- the automaton's answer from place p on, in state st -/
def A (L : List UInt8) (st p : Nat) : Nat := run st p (L.drop p)

theorem A_end {L : List UInt8} {st p : Nat} (h : L.length ≤ p) : A L st p = 0 := by
  rw [A, List.drop_eq_nil_of_le h]; cases st <;> rfl
theorem A_step {L : List UInt8} {st p : Nat} (h : p < L.length) :
    A L st p = if (step st L[p]).2 = true then p + 1 else if (step st L[p]).1 = 14 then 0 else A L (step st L[p]).1 (p + 1) := by
  rw [A, List.drop_eq_getElem_cons h, run]; rfl
theorem A_go {L : List UInt8} {st p st' : Nat} (h : p < L.length) (hs : step st L[p] = (st', false)) (h' : st' ≠ 14) : A L st p = A L st' (p + 1) := by
  rw [A_step h, hs]; simp [h']
theorem A_dead {L : List UInt8} {st p : Nat} (h : p < L.length) (hs : step st L[p] = (14, false)) : A L st p = 0 := by
  rw [A_step h, hs]; simp
theorem A_done {L : List UInt8} {st p : Nat} (h : p < L.length) (hs : step st L[p] = (14, true)) : A L st p = p + 1 := by
  rw [A_step h, hs]; simp

/-- bounds of the answer -/
theorem run_bounds : ∀ (l : List UInt8) (st p : Nat), run st p l = 0 ∨ (p < run st p l ∧ run st p l ≤ p + l.length)
  | [], st, p => .inl (by cases st <;> rfl)
  | b :: t, st, p => by
    rw [run]
    split
    · right; simp
    · split
      · exact .inl rfl
      · rcases run_bounds t (step st b).1 (p + 1) with h | h
        · exact .inl h
        · right; simp; omega
/-- a tag is decided at its closing bracket -/
theorem run_take : ∀ (l : List UInt8) (st p m : Nat), run st p (l.take m) = if run st p l ≤ p + m then run st p l else 0
  | [], st, p, m => by simp [run]
  | b :: t, st, p, 0 => by
    rcases run_bounds (b :: t) st p with h | h
    · rw [h]; simp [run]
    · rw [if_neg (by omega)]; simp [run]
  | b :: t, st, p, m + 1 => by
    have ih := run_take t (step st b).1 (p + 1) m
    rw [List.take_succ_cons, run, run]
    split
    · rw [if_pos (by omega)]
    · split
      · simp
      · rw [ih, show p + 1 + m = p + (m + 1) by omega]

/-- the first place from i on that is not white -/
def skipN : List UInt8 → Nat
  | [] => 0
  | b :: t => if white b = true then skipN t + 1 else 0
def skip (L : List UInt8) (i : Nat) : Nat := i + skipN (L.drop i)

theorem skip_end {L : List UInt8} {i : Nat} (h : L.length ≤ i) : skip L i = i := by
  rw [skip, List.drop_eq_nil_of_le h]; rfl
theorem skip_yes {L : List UInt8} {i : Nat} (h : i < L.length) (hw : white L[i] = true) : skip L i = skip L (i + 1) := by
  rw [skip, List.drop_eq_getElem_cons h, skipN, if_pos hw, skip]; omega
theorem skip_no {L : List UInt8} {i : Nat} (h : i < L.length) (hw : white L[i] = false) : skip L i = i := by
  rw [skip, List.drop_eq_getElem_cons h, skipN, if_neg (by rw [hw]; exact Bool.false_ne_true)]; rfl
theorem skip_ge (L : List UInt8) (i : Nat) : i ≤ skip L i := by unfold skip; omega
theorem skipN_le : ∀ (l : List UInt8), skipN l ≤ l.length
  | [] => by simp [skipN]
  | b :: t => by
    have := skipN_le t
    rw [skipN]
    split <;> simp <;> omega
theorem skip_le {L : List UInt8} {i : Nat} (h : i ≤ L.length) : skip L i ≤ L.length := by
  have := skipN_le (L.drop i)
  rw [List.length_drop] at this
  unfold skip; omega
/-- where it stands, the byte is not white -/
theorem skip_at {L : List UInt8} : ∀ (n i : Nat), L.length - i = n → (h : skip L i < L.length) → white (L[skip L i]'h) = false
  | n, i, hn, h => by
    by_cases hi : i < L.length
    · cases hw : white L[i]
      · have e := skip_no hi hw
        have : ∀ j (hj : j < L.length), j = i → white L[j] = false := fun j hj e => by subst e; exact hw
        exact this _ h e
      · match n with
        | 0 => omega
        | n + 1 =>
          have e := skip_yes hi hw
          have ih := skip_at (L := L) n (i + 1) (by omega) (by omega)
          have : ∀ j (hj : j < L.length), j = skip L (i + 1) → white L[j] = false := fun j hj e => by subst e; exact ih
          exact this _ h e
    · have := skip_ge L i
      omega

/-- in a state that stays over white space the answer is that behind it -/
theorem A_skip {L : List UInt8} {st : Nat} (hs : ∀ b, white b = true → step st b = (st, false)) (h14 : st ≠ 14) : ∀ (n i : Nat), L.length - i = n → A L st i = A L st (skip L i)
  | n, i, hn => by
    by_cases hi : i < L.length
    · cases hw : white L[i]
      · rw [skip_no hi hw]
      · match n with
        | 0 => omega
        | n + 1 =>
          rw [skip_yes hi hw, A_go hi (hs _ hw) h14]
          exact A_skip hs h14 n (i + 1) (by omega)
    · rw [skip_end (by omega)]

theorem st2 (b : UInt8) (h : white b = true) : step 2 b = (2, false) := by simp [step, h]
theorem st5 (b : UInt8) (h : white b = true) : step 5 b = (5, false) := by simp [step, h]
theorem st6 (b : UInt8) (h : white b = true) : step 6 b = (6, false) := by simp [step, h]
theorem st13 (b : UInt8) (h : white b = true) : step 13 b = (13, false) := by simp [step, h]

/-- which bytes shut which out -/
theorem eqb_excl {b : UInt8} {m n : Int} (h : eqb b m = true) (hne : m ≠ n) : eqb b n = false := by
  unfold eqb at *
  rw [beq_iff_eq] at h
  rw [h]
  simpa using hne
theorem white_excl {b : UInt8} {n : Int} (h : eqb b n = true) (h1 : n ≠ 32) (h2 : n ≠ 9) (h3 : n ≠ 11) (h4 : n ≠ 12) : white b = false := by
  unfold white
  rw [eqb_excl h h1, eqb_excl h h2, eqb_excl h h3, eqb_excl h h4]; rfl
theorem letter_excl {b : UInt8} {n : Int} (h : letter b = true) (hn : n < 65 ∨ (90 < n ∧ n < 97) ∨ 122 < n) : eqb b n = false := by
  unfold letter at h
  unfold eqb
  simp at h
  simp
  omega
theorem attrS_62 {b : UInt8} (h : attrS b = true) : eqb b 62 = false := by
  unfold attrS at h
  simp only [Bool.or_eq_true] at h
  rcases h with (h | h) | h
  · exact letter_excl h (.inl (by decide))
  · exact eqb_excl h (by decide)
  · exact eqb_excl h (by decide)
theorem attrS_47 {b : UInt8} (h : attrS b = true) : eqb b 47 = false := by
  unfold attrS at h
  simp only [Bool.or_eq_true] at h
  rcases h with (h | h) | h
  · exact letter_excl h (.inl (by decide))
  · exact eqb_excl h (by decide)
  · exact eqb_excl h (by decide)
theorem unq_47 {b : UInt8} (h : eqb b 47 = true) : unq b = true := by
  unfold unq
  rw [eqb_excl h (by decide : (47 : Int) ≠ 34), eqb_excl h (by decide : (47 : Int) ≠ 39), eqb_excl h (by decide : (47 : Int) ≠ 61), eqb_excl h (by decide : (47 : Int) ≠ 60), eqb_excl h (by decide : (47 : Int) ≠ 62), eqb_excl h (by decide : (47 : Int) ≠ 96)]
  unfold eqb at h
  simp at h
  simp
  omega

/-- the answer behind a name or a value -/
def aft (L : List UInt8) (i : Nat) : Nat :=
  if h : skip L i < L.length then
    if eqb L[skip L i] 62 = true then skip L i + 1
    else if eqb L[skip L i] 47 = true then (if h2 : skip L i + 1 < L.length then (if eqb L[skip L i + 1] 62 = true then skip L i + 2 else 0) else 0)
    else if skip L i = i then 0
    else if attrS L[skip L i] = true then A L 4 (skip L i + 1) else 0
  else 0

theorem A3 {L : List UInt8} {j : Nat} : A L 3 j = if h2 : j < L.length then (if eqb L[j] 62 = true then j + 1 else 0) else 0 := by
  by_cases h : j < L.length
  · rw [dif_pos h]
    by_cases h2 : eqb L[j] 62 = true
    · rw [if_pos h2, A_done h (by simp [step, h2])]
    · rw [if_neg h2, A_dead h (by simp [step, h2])]
  · rw [dif_neg h, A_end (by omega)]

theorem aft_end {L : List UInt8} {i : Nat} (h : L.length ≤ skip L i) : aft L i = 0 := by
  unfold aft; rw [dif_neg (by omega)]
theorem aft_gt {L : List UInt8} {i : Nat} (h : skip L i < L.length) (h1 : eqb L[skip L i] 62 = true) : aft L i = skip L i + 1 := by
  unfold aft; rw [dif_pos h, if_pos h1]
theorem aft_sl {L : List UInt8} {i : Nat} (h : skip L i + 1 < L.length) (h1 : eqb L[skip L i] 47 = true) (h2 : eqb L[skip L i + 1] 62 = true) : aft L i = skip L i + 2 := by
  unfold aft
  have hh : skip L i < L.length := by omega
  have e : ¬ eqb L[skip L i] 62 = true := by rw [eqb_excl h1 (by decide)]; exact Bool.false_ne_true
  rw [dif_pos hh, if_neg e, if_pos h1, dif_pos h, if_pos h2]
theorem aft_sl0 {L : List UInt8} {i : Nat} (hh : skip L i < L.length) (h1 : eqb L[skip L i] 47 = true) (h2 : ∀ h : skip L i + 1 < L.length, eqb L[skip L i + 1] 62 = false) : aft L i = 0 := by
  unfold aft
  have e : ¬ eqb L[skip L i] 62 = true := by rw [eqb_excl h1 (by decide)]; exact Bool.false_ne_true
  rw [dif_pos hh, if_neg e, if_pos h1]
  split
  · rename_i h
    rw [if_neg (by rw [h2 h]; exact Bool.false_ne_true)]
  · rfl
theorem aft_same {L : List UInt8} {i : Nat} (hh : skip L i < L.length) (h1 : eqb L[skip L i] 62 = false) (h2 : eqb L[skip L i] 47 = false) (h3 : skip L i = i) : aft L i = 0 := by
  unfold aft
  rw [dif_pos hh, if_neg (by rw [h1]; exact Bool.false_ne_true), if_neg (by rw [h2]; exact Bool.false_ne_true), if_pos h3]
theorem aft_not {L : List UInt8} {i : Nat} (hh : skip L i < L.length) (h1 : eqb L[skip L i] 62 = false) (h2 : eqb L[skip L i] 47 = false) (h3 : attrS L[skip L i] = false) : aft L i = 0 := by
  unfold aft
  rw [dif_pos hh, if_neg (by rw [h1]; exact Bool.false_ne_true), if_neg (by rw [h2]; exact Bool.false_ne_true)]
  split
  · rfl
  · rw [if_neg (by rw [h3]; exact Bool.false_ne_true)]
theorem aft_attr {L : List UInt8} {i : Nat} (hh : skip L i < L.length) (hne : skip L i ≠ i) (h3 : attrS L[skip L i] = true) : aft L i = A L 4 (skip L i + 1) := by
  unfold aft
  rw [dif_pos hh, if_neg (by rw [attrS_62 h3]; exact Bool.false_ne_true), if_neg (by rw [attrS_47 h3]; exact Bool.false_ne_true), if_neg hne, if_pos h3]

/-- behind white space, in state 2 or 5 -/
theorem A_space {L : List UInt8} {w j : Nat} (h : j < L.length) (hw : white L[j] = false) (hs : w = 2 ∨ (w = 5 ∧ eqb L[j] 61 = false)) :
    A L w j = if eqb L[j] 62 = true then j + 1 else if eqb L[j] 47 = true then A L 3 (j + 1) else if attrS L[j] = true then A L 4 (j + 1) else 0 := by
  have hw' : ¬ white L[j] = true := by rw [hw]; exact Bool.false_ne_true
  have e : step w L[j] = if eqb L[j] 62 = true then (14, true) else if eqb L[j] 47 = true then (3, false) else if attrS L[j] = true then (4, false) else (14, false) := by
    rcases hs with rfl | ⟨rfl, h61⟩
    · simp only [step, if_neg hw']
    · simp only [step, if_neg hw', h61]; simp
  by_cases h1 : eqb L[j] 62 = true
  · rw [if_pos h1, A_done h (by rw [e, if_pos h1])]
  · by_cases h2 : eqb L[j] 47 = true
    · rw [if_neg h1, if_pos h2, A_go h (by rw [e, if_neg h1, if_pos h2]) (by decide)]
    · by_cases h3 : attrS L[j] = true
      · rw [if_neg h1, if_neg h2, if_pos h3, A_go h (by rw [e, if_neg h1, if_neg h2, if_pos h3]) (by decide)]
      · rw [if_neg h1, if_neg h2, if_neg h3, A_dead h (by rw [e, if_neg h1, if_neg h2, if_neg h3])]

theorem end_A {L : List UInt8} {s w i : Nat} (hw : w = 2 ∨ (w = 5 ∧ ∀ h : skip L i < L.length, eqb L[skip L i] 61 = false))
    (hs : ∀ h : i < L.length, step s L[i] = if white L[i] = true then (w, false) else if eqb L[i] 62 = true then (14, true) else if eqb L[i] 47 = true then (3, false) else (14, false)) : A L s i = aft L i := by
  by_cases hi : i < L.length
  · have e := hs hi
    cases hwh : white L[i]
    · have hn : ¬ white L[i] = true := by rw [hwh]; exact Bool.false_ne_true
      rw [if_neg hn] at e
      have hsk := skip_no hi hwh
      by_cases h1 : eqb L[i] 62 = true
      · rw [A_done hi (by rw [e, if_pos h1])]
        unfold aft
        simp only [hsk, dif_pos hi, if_pos h1]
      · by_cases h2 : eqb L[i] 47 = true
        · rw [A_go hi (by rw [e, if_neg h1, if_pos h2]) (by decide), A3]
          unfold aft
          simp only [hsk, dif_pos hi, if_neg h1, if_pos h2]
        · rw [A_dead hi (by rw [e, if_neg h1, if_neg h2])]
          unfold aft
          simp only [hsk, dif_pos hi, if_neg h1, if_neg h2, if_pos]
    · rw [if_pos hwh] at e
      have hsk := skip_yes hi hwh
      have hge := skip_ge L (i + 1)
      have hw14 : w ≠ 14 := by rcases hw with rfl | ⟨rfl, _⟩ <;> decide
      have hst : ∀ b, white b = true → step w b = (w, false) := by
        rcases hw with rfl | ⟨rfl, _⟩
        · exact st2
        · exact st5
      rw [A_go hi e hw14, A_skip hst hw14 _ (i + 1) rfl, ← hsk]
      by_cases hj : skip L i < L.length
      · have hwj := skip_at (L := L) _ i rfl hj
        have hw2 : w = 2 ∨ (w = 5 ∧ eqb L[skip L i] 61 = false) := by
          rcases hw with h | ⟨h, h61⟩
          · exact .inl h
          · exact .inr ⟨h, h61 hj⟩
        rw [A_space hj hwj hw2]
        unfold aft
        rw [dif_pos hj]
        by_cases h1 : eqb L[skip L i] 62 = true
        · rw [if_pos h1, if_pos h1]
        · by_cases h2 : eqb L[skip L i] 47 = true
          · rw [if_neg h1, if_neg h1, if_pos h2, if_pos h2, A3]
          · have hne : ¬ skip L i = i := by omega
            rw [if_neg h1, if_neg h1, if_neg h2, if_neg h2, if_neg hne]
      · rw [A_end (by omega), aft_end (by omega)]
  · rw [A_end (by omega), aft_end (by rw [skip_end (by omega)]; omega)]

theorem end1 {L : List UInt8} {i : Nat} (hc : ∀ h : i < L.length, nameC L[i] = false) : A L 1 i = aft L i :=
  end_A (w := 2) (.inl rfl) (fun h => by
    have : ¬ nameC L[i] = true := by rw [hc h]; exact Bool.false_ne_true
    simp only [step, if_neg this])
theorem end9 {L : List UInt8} {i : Nat} (hc : ∀ h : i < L.length, unq L[i] = false) : A L 9 i = aft L i :=
  end_A (w := 2) (.inl rfl) (fun h => by
    have h1 : ¬ unq L[i] = true := by rw [hc h]; exact Bool.false_ne_true
    have h2 : ¬ eqb L[i] 47 = true := fun e => h1 (unq_47 e)
    simp only [step, if_neg h1, if_neg h2])
theorem end10 {L : List UInt8} {i : Nat} : A L 10 i = aft L i :=
  end_A (w := 2) (.inl rfl) (fun h => by
    cases hw : white L[i]
    · simp [step, hw]
    · have h1 : eqb L[i] 62 = false := by
        cases e : eqb L[i] 62
        · rfl
        · rw [white_excl e (by decide) (by decide) (by decide) (by decide)] at hw; cases hw
      have h2 : eqb L[i] 47 = false := by
        cases e : eqb L[i] 47
        · rfl
        · rw [white_excl e (by decide) (by decide) (by decide) (by decide)] at hw; cases hw
      simp [step, hw, h1, h2])
theorem end4 {L : List UInt8} {i : Nat} (hc : ∀ h : i < L.length, attrC L[i] = false) (h61 : ∀ h : skip L i < L.length, eqb L[skip L i] 61 = false) : A L 4 i = aft L i :=
  end_A (w := 5) (.inr ⟨rfl, h61⟩) (fun h => by
    have h1 : ¬ attrC L[i] = true := by rw [hc h]; exact Bool.false_ne_true
    cases hw : white L[i]
    · have hsk := skip_no h hw
      have h2 : eqb L[i] 61 = false := by
        have := h61 (by omega)
        simpa only [hsk] using this
      simp only [step, if_neg h1, hw, h2]; simp
    · simp only [step, if_neg h1, hw]; simp)
theorem attr_eq {L : List UInt8} {i : Nat} (hc : ∀ h : i < L.length, attrC L[i] = false) (hk : skip L i < L.length) (h61 : eqb L[skip L i] 61 = true) : A L 4 i = A L 6 (skip L i + 1) := by
  have hi : i < L.length := Nat.lt_of_le_of_lt (skip_ge L i) hk
  have h1 : ¬ attrC L[i] = true := by rw [hc hi]; exact Bool.false_ne_true
  cases hw : white L[i]
  · have hsk := skip_no hi hw
    simp only [hsk] at h61 ⊢
    exact A_go hi (by simp [step, h1, hw, h61]) (by decide)
  · have hsk := skip_yes hi hw
    have e5 : A L 5 (skip L i) = A L 6 (skip L i + 1) := A_go hk (by
      have := skip_at (L := L) _ i rfl hk
      simp [step, this, h61]) (by decide)
    rw [A_go hi (by simp [step, h1, hw]) (by decide : (5 : Nat) ≠ 14), A_skip st5 (by decide) _ (i + 1) rfl, ← hsk, e5]
theorem eq_skip (L : List UInt8) (i : Nat) : A L 6 i = A L 6 (skip L i) := A_skip st6 (by decide) _ i rfl

/-- a value in quotation marks (7, 34) or apostrophes (8, 39) -/
theorem q_none {L : List UInt8} {st : Nat} {q : Int} (hs : ∀ b, eqb b q = false → step st b = (st, false)) (h14 : st ≠ 14) : ∀ (n i : Nat), L.length - i = n → (∀ j (h : j < L.length), i ≤ j → eqb L[j] q = false) → A L st i = 0
  | n, i, hn, hq => by
    by_cases hi : i < L.length
    · match n with
      | 0 => omega
      | n + 1 =>
        rw [A_go hi (hs _ (hq i hi (Nat.le_refl _))) h14]
        exact q_none hs h14 n (i + 1) (by omega) (fun j h hj => hq j h (by omega))
    · exact A_end (by omega)
theorem q_hit {L : List UInt8} {st : Nat} {q : Int} (hs : ∀ b, eqb b q = false → step st b = (st, false)) (hs2 : ∀ b, eqb b q = true → step st b = (10, false)) (h14 : st ≠ 14) :
    ∀ (e i : Nat) (h : i + e < L.length), (∀ j (h : j < L.length), i ≤ j → j < i + e → eqb L[j] q = false) → eqb L[i + e] q = true → A L st i = A L 10 (i + e + 1)
  | 0, i, h, _, hq => A_go h (hs2 _ hq) (by decide)
  | e + 1, i, h, hn, hq => by
    rw [A_go (by omega) (hs _ (hn i (by omega) (Nat.le_refl _) (by omega))) h14]
    have := q_hit hs hs2 h14 e (i + 1) (by omega) (fun j h h1 h2 => hn j h (by omega) (by omega)) (by simpa only [show i + 1 + e = i + (e + 1) by omega] using hq)
    rw [this, show i + 1 + e + 1 = i + (e + 1) + 1 by omega]
theorem st7 (b : UInt8) (h : eqb b 34 = false) : step 7 b = (7, false) := by simp [step, h]
theorem st7q (b : UInt8) (h : eqb b 34 = true) : step 7 b = (10, false) := by simp [step, h]
theorem st8 (b : UInt8) (h : eqb b 39 = false) : step 8 b = (8, false) := by simp [step, h]
theorem st8q (b : UInt8) (h : eqb b 39 = true) : step 8 b = (10, false) := by simp [step, h]

/-- the value's first byte -/
theorem val7 {L : List UInt8} {k : Nat} (h : k < L.length) (hq : eqb L[k] 34 = true) : A L 6 k = A L 7 (k + 1) :=
  A_go h (by have := white_excl hq (by decide) (by decide) (by decide) (by decide); simp [step, this, hq]) (by decide)
theorem val8 {L : List UInt8} {k : Nat} (h : k < L.length) (hq : eqb L[k] 39 = true) : A L 6 k = A L 8 (k + 1) :=
  A_go h (by
    have h1 := white_excl hq (by decide) (by decide) (by decide) (by decide)
    have h2 := eqb_excl hq (by decide : (39 : Int) ≠ 34)
    simp [step, h1, h2, hq]) (by decide)
theorem val9 {L : List UInt8} {k : Nat} (h : k < L.length) (hw : white L[k] = false) (h34 : eqb L[k] 34 = false) (h39 : eqb L[k] 39 = false) (hu : unq L[k] = true) : A L 6 k = A L 9 k := by
  rw [A_go h (by simp [step, hw, h34, h39, hu]) (by decide : (9 : Nat) ≠ 14), A_go (st := 9) h (by simp [step, hu]) (by decide : (9 : Nat) ≠ 14)]
theorem val0 {L : List UInt8} {k : Nat} (h : k < L.length) (hw : white L[k] = false) (h34 : eqb L[k] 34 = false) (h39 : eqb L[k] 39 = false) (hu : unq L[k] = false) : A L 6 k = 0 :=
  A_dead h (by simp [step, hw, h34, h39, hu])

/-- a closing tag behind its name -/
theorem close_A {L : List UInt8} {i : Nat} (hc : ∀ h : i < L.length, nameC L[i] = false) : A L 12 i = if h : skip L i < L.length then (if eqb L[skip L i] 62 = true then skip L i + 1 else 0) else 0 := by
  by_cases hi : i < L.length
  · have h1 : ¬ nameC L[i] = true := by rw [hc hi]; exact Bool.false_ne_true
    cases hw : white L[i]
    · have hsk := skip_no hi hw
      simp only [hsk, dif_pos hi]
      by_cases h2 : eqb L[i] 62 = true
      · rw [if_pos h2, A_done hi (by simp [step, h1, hw, h2])]
      · rw [if_neg h2, A_dead hi (by simp [step, h1, hw, h2])]
    · have hsk := skip_yes hi hw
      rw [A_go hi (by simp [step, h1, hw]) (by decide : (13 : Nat) ≠ 14), A_skip st13 (by decide) _ (i + 1) rfl, ← hsk]
      by_cases hj : skip L i < L.length
      · have hwj := skip_at (L := L) _ i rfl hj
        rw [dif_pos hj]
        by_cases h2 : eqb L[skip L i] 62 = true
        · rw [if_pos h2, A_done hj (by simp [step, hwj, h2])]
        · rw [if_neg h2, A_dead hj (by simp [step, hwj, h2])]
      · rw [dif_neg hj, A_end (by omega)]
  · rw [A_end (by omega), dif_neg (by rw [skip_end (by omega)]; omega)]
end Go.Proofs.Qxb6002915a
