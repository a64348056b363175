import Derived.Test.Qxb6001690aLeaf
import Derived.WalkLawsBesides
namespace Go.Proofs.Qxb6001690a
open Go.RowKit
set_option linter.unusedVariables false

theorem tl (s : ByteArray) : s.toList = bl s := ByteArray.toList_eq s
theorem bl_app (s t : ByteArray) : bl (s ++ t) = bl s ++ bl t := by
  unfold bl
  rw [ByteArray.data_append, Array.toList_append]
theorem bl_inj' {s t : ByteArray} (h : bl s = bl t) : (s.toList == t.toList) = true := by rw [tl, tl, h]; simp
theorem emp_iff (s : ByteArray) : s.toList.isEmpty = (bl s).isEmpty := by rw [tl]

theorem z_size {p n f : List UInt8} (h : p = piece0 n f) : n.length + 1 ≤ p.length := by
  rw [h, piece0]; simp
theorem z_head {p n f : List UInt8} (h : p = piece0 n f) : p.take (n.length + 1) = n ++ [58] := by
  rw [h, piece0, show n ++ 58 :: (if f = [] then [] else 32 :: f) = (n ++ [58]) ++ (if f = [] then [] else 32 :: f) by simp, List.take_append]
  simp
  exact List.take_of_length_le (by simp)
theorem z_rest {p n f : List UInt8} (h : p = piece0 n f) : p.drop (n.length + 1) = if f = [] then [] else 32 :: f := by
  rw [h, piece0, show n ++ 58 :: (if f = [] then [] else 32 :: f) = (n ++ [58]) ++ (if f = [] then [] else 32 :: f) by simp, List.drop_append]
  simp

set_option maxHeartbeats 400000 in
theorem piece_zero (piece name line : ByteArray) (lines : Bool) (w : World) (hn : name.size ≤ 1048576) (hl : line.size ≤ 1048576) (hp : bl piece = piece0 (bl name) (bl line)) :
    Calls Try.prog 29 #[.int .i64 0, .string piece, .string name, .string line, .bool lines] w fun e w' => e = .returned (.bool true) ∧ w' = w := by
  have h1 := z_size hp
  rw [bl_length, bl_length] at h1
  have h1' : (name.size : Int) + 1 ≤ piece.size := by omega
  have h2 : ((piece.extract 0 (name.size + 1)).toList == (name ++ { data := #[58] }).toList) = true := bl_inj' (by
    rw [bl_extract, bl_app]
    have := z_head hp
    rw [bl_length] at this
    simpa [bl] using this)
  have h3 : bl (piece.extract (name.size + 1) piece.size) = if bl line = [] then [] else 32 :: bl line := by
    rw [bl_tail]
    have := z_rest hp
    rwa [bl_length] at this
  have H3 : Hid (bl (piece.extract (name.size + 1) piece.size) = if bl line = [] then [] else 32 :: bl line) := h3
  clear h3 hp h1
  cases hle : line.toList.isEmpty
  · have H4 : Hid (bl line ≠ []) := by
      intro e; rw [tl, e] at hle; cases hle
    go_enter Try.func29, Try.ntmps29
    go_wp2
    go_ret
    exact ⟨ret_bool (bl_inj' (by rw [H3.out, if_neg H4.out, bl_app]; rfl)), rfl⟩
  · have H4 : Hid (bl line = []) := by
      rw [tl] at hle; exact List.isEmpty_iff.1 hle
    go_enter Try.func29, Try.ntmps29
    go_wp2
    go_ret
    exact ⟨ret_bool (by rw [emp_iff, H3.out, if_pos H4.out]; rfl), rfl⟩

theorem first_get (s : ByteArray) (b : UInt8) (t : List UInt8) (h : bl s = b :: t) : ∃ h0 : 0 < s.size, (s[0].toNat : Int) = b.toNat := by
  have hl := congrArg List.length h
  rw [bl_length] at hl
  simp at hl
  refine ⟨by omega, ?_⟩
  have e := bl_get s 0 (by omega)
  rw [h] at e
  simp at e
  rw [← e]
theorem sz_ne (s : ByteArray) (h : 0 < s.size) : ((s.size : Int) == 0) = false := beq_eq_false_iff_ne.2 (by omega)
theorem bne_nil (s : ByteArray) (h : bl s ≠ []) : s.toList.isEmpty = false := by rw [emp_iff]; simpa using h
theorem beq_nil (s : ByteArray) (h : bl s = []) : s.toList.isEmpty = true := by rw [emp_iff, h]; rfl
theorem blank_head {b : UInt8} {t : List UInt8} (h : 0 < blankN (b :: t)) : (b.toNat : Int) = 32 ∨ (b.toNat : Int) = 9 := by
  rw [blankN] at h
  split at h
  · rename_i hb
    rw [blank_iff] at hb
    simpa using hb
  · omega
theorem trimL_sp (l : List UInt8) : trimL (32 :: l) = trimL l := by
  rw [trimL, blankN, if_pos (by decide)]; rfl

set_option maxHeartbeats 400000 in
theorem piece_lines (k : Nat) (hk : 0 < k) (hk2 : k < 10000000) (piece name line : ByteArray) (w : World) (hs : piece.size ≤ 16777216) (hn : name.size ≤ 1048576) (hl : line.size ≤ 1048576) (hp : bl piece = pieceK true (bl line)) :
    Calls Try.prog 29 #[.int .i64 k, .string piece, .string name, .string line, .bool true] w fun e w' => e = .returned (.bool true) ∧ w' = w := by
  have hp1 : bl piece = 32 :: (if bl line = [] then [46] else bl line) := by rw [hp]; simp [pieceK]
  obtain ⟨h0, hb⟩ := first_get piece 32 _ hp1
  have hb' : (piece[0].toNat : Int) = 32 := hb
  have hz := sz_ne piece h0
  clear hb hp
  have hx : bl (piece.extract 1 piece.size) = if bl line = [] then [46] else bl line := by rw [bl_tail, hp1]; rfl
  clear hp1
  by_cases e1 : bl line = []
  · have a1 : ((piece.extract 1 piece.size).toList == [46]) = true := by rw [tl, hx, if_pos e1]; rfl
    have a2 : (line.toList == [46]) = false := by rw [tl, e1]; rfl
    have a3 : line.toList.isEmpty = true := beq_nil _ e1
    clear hx e1
    go_enter Try.func29, Try.ntmps29
    go_wp2
    go_ret
    exact ⟨rfl, rfl⟩
  · by_cases e2 : bl line = [46]
    · have a1 : ((piece.extract 1 piece.size).toList == [46]) = true := by rw [tl, hx, if_neg e1, e2]; rfl
      have a2 : (line.toList == [46]) = true := by rw [tl, e2]; rfl
      clear hx e1 e2
      go_enter Try.func29, Try.ntmps29
      go_wp2
      go_ret
      exact ⟨rfl, rfl⟩
    · have a1 : ((piece.extract 1 piece.size).toList == [46]) = false := by rw [tl, hx, if_neg e1]; simpa using e2
      have a2 : (line.toList == [46]) = false := by rw [tl]; simpa using e2
      have a3 : ((piece.extract 1 piece.size).toList == line.toList) = true := bl_inj' (by rw [hx, if_neg e1])
      clear hx e1 e2
      go_enter Try.func29, Try.ntmps29
      go_wp2
      go_ret
      exact ⟨rfl, rfl⟩

set_option maxHeartbeats 400000 in
theorem piece_plain (k : Nat) (hk : 0 < k) (hk2 : k < 10000000) (piece name line : ByteArray) (w : World) (hs : piece.size ≤ 16777216) (hn : name.size ≤ 1048576) (hl : line.size ≤ 1048576) (hp : bl piece = pieceK false (bl line)) :
    Calls Try.prog 29 #[.int .i64 k, .string piece, .string name, .string line, .bool false] w fun e w' => e = .returned (.bool true) ∧ w' = w := by
  by_cases e1 : bl line = []
  · have hp1 : bl piece = 32 :: [46] := by rw [hp, e1]; rfl
    obtain ⟨h0, hb⟩ := first_get piece 32 _ hp1
    have hb' : (piece[0].toNat : Int) = 32 := hb
    have a3 : line.toList.isEmpty = true := beq_nil _ e1
    have H : Hid (trimL (bl piece) = [46]) := by rw [hp1]; rfl
    have hz := sz_ne piece h0
    clear hb hp hp1 e1
    go_enter Try.func29, Try.ntmps29
    go_wp2_with (go_at_call 82; refine (trimLeft_any _ _ ?_).mono ?_; (unfold maxLen; omega); rintro e w' ⟨r, rfl, hr, rfl⟩)
    go_ret
    exact ⟨ret_bool (by rw [tl, hr, H.out]; rfl), rfl⟩
  · have a3 : line.toList.isEmpty = false := bne_nil _ e1
    have key : trimL (bl piece) = trimL (bl line) ∧ ∃ h0 : 0 < piece.size, (piece[0].toNat : Int) = 32 ∨ (piece[0].toNat : Int) = 9 := by
      by_cases hb : blankN (bl line) = 0
      · have hp1 : bl piece = 32 :: bl line := by rw [hp]; simp [pieceK, e1, hb]
        obtain ⟨h0, hb⟩ := first_get piece 32 _ hp1
        exact ⟨by rw [hp1, trimL_sp], h0, .inl hb⟩
      · have hp1 : bl piece = bl line := by rw [hp]; simp [pieceK, e1, hb]
        refine ⟨by rw [hp1], ?_⟩
        match hc : bl line, e1 with
        | b :: t, _ =>
          rw [hc] at hp1 hb
          obtain ⟨h0, hb2⟩ := first_get piece b _ hp1
          have := blank_head (Nat.pos_of_ne_zero hb)
          rw [← hb2] at this
          exact ⟨h0, this⟩
    obtain ⟨hT, h0, hor⟩ := key
    have H : Hid (trimL (bl piece) = trimL (bl line)) := hT
    have hz := sz_ne piece h0
    clear hT hp e1
    rcases hor with hb' | hb'
    all_goals
      go_enter Try.func29, Try.ntmps29
      go_wp2_with fail
      refine (trimLeft_any piece _ (by unfold maxLen; omega)).mono ?_
      rintro e w' ⟨r1, rfl, hr1, rfl⟩
      go_wp2_with fail
      refine (trimLeft_any line _ (by unfold maxLen; omega)).mono ?_
      rintro e w' ⟨r2, rfl, hr2, rfl⟩
      go_wp2
      go_ret
      exact ⟨ret_bool (bl_inj' (by rw [hr1, hr2, H.out])), rfl⟩

theorem piece_any (k : Nat) (hk2 : k < 10000000) (piece name line : ByteArray) (lines : Bool) (w : World) (hs : piece.size ≤ 16777216) (hn : name.size ≤ 1048576) (hl : line.size ≤ 1048576) (hp : bl piece = pieceAt lines (bl name) k (bl line)) :
    Calls Try.prog 29 #[.int .i64 k, .string piece, .string name, .string line, .bool lines] w fun e w' => e = .returned (.bool true) ∧ w' = w := by
  by_cases hk : k = 0
  · subst hk
    exact piece_zero piece name line lines w hn hl (by rw [hp]; rfl)
  · rw [pieceAt, if_neg hk] at hp
    cases lines
    · exact piece_plain k (by omega) hk2 piece name line w hs hn hl hp
    · exact piece_lines k (by omega) hk2 piece name line w hs hn hl hp
end Go.Proofs.Qxb6001690a
