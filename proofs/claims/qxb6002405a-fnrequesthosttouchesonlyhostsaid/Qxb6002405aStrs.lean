import Derived.Test.Qxb6002405aLeaf
namespace Go.Proofs.Qxb6002405a
open Go.RowKit
set_option linter.unusedVariables false

/-- the cells of a slice of strings, asked for only where there is an element -/
def View (w : World) (ao : Option Addr) (ss : List ByteArray) : Prop :=
  0 < ss.length → ∃ b off, ao = some ⟨b, off, none⟩ ∧ b < w.heap.size ∧ ∀ j (h : j < ss.length), w.cell? ⟨b, off + j, none⟩ = some (.string ss[j])

/-- some boolean; where it is true, p -/
def RetIf (e : Ending) (p : Prop) : Prop := ∃ b, e = .returned (.bool b) ∧ (b = true → p)
/-- some int from 0 to n -/
def RetTo (e : Ending) (n : Int) : Prop := ∃ t, e = .returned (.int .i64 t) ∧ 0 ≤ t ∧ t ≤ n

set_option maxHeartbeats 1000000 in
theorem bytes_any (a0 : Option Addr) (s0 : List ByteArray) (c0 : Nat) (p : Bool) (k : ByteArray) (a3 : Option Addr) (s3 : List ByteArray) (c3 : Nat) (u : ByteArray) (m : Int) (w : World)
    (v0 : View w a0 s0) (v3 : View w a3 s3) (hk : k.size ≤ maxLen) (hu : u.size ≤ maxLen) (h0 : s0.length ≤ maxLen) (h3 : s3.length ≤ maxLen) :
    Calls Try.prog 4 #[.slice a0 s0.length c0, .bool p, .string k, .slice a3 s3.length c3, .string u, .int .i64 m] w fun e w' => RetIf e (s0.length ≤ 1048576 ∧ s3.length ≤ 1048576) ∧ w' = w := by
  unfold maxLen at *
  have V0 : Hid (View w a0 s0) := v0
  have V3 : Hid (View w a3 s3) := v3
  clear v0 v3
  go_enter Try.func4, Try.ntmps4
  by_cases b0 : 1048576 < s0.length
  · go_wp2
    go_ret
    exact ⟨⟨_, rfl, by simp⟩, rfl⟩
  · have hb0 : s0.length ≤ 1048576 := by omega
    clear b0
    go_wp2
    go_loop [13, 14] (fun z i => ∃ (t : Int) (k : Nat), k ≤ s0.length ∧ 0 ≤ t ∧ t ≤ 1048576 ∧ z = .int .i64 t ∧ i = .int .i64 k) (fun _ i => s0.length - (intOf i).toNat)
    case atStart => exact ⟨_, 0, Nat.zero_le _, by omega, by omega, rfl, rfl⟩
    case round =>
      obtain ⟨t, i, hi, ht0, ht1, rfl, rfl⟩ := hrel
      by_cases hlt : i < s0.length
      · obtain ⟨b, off, rfl, hb, hc⟩ := V0.out (by omega)
        have hci := hc i hlt
        clear hc
        go_wp2
        · go_ret
          exact ⟨⟨_, rfl, by simp⟩, rfl⟩
        · go_ret
          exact ⟨⟨_, rfl, by simp⟩, rfl⟩
        · go_round
          case rel => exact ⟨_, i + 1, by omega, by omega, by omega, rfl, by go_num⟩
          case measure => simp [intOf]; omega
      · by_cases b3 : 1048576 < s3.length
        · go_wp2
          · go_ret
            exact ⟨⟨_, rfl, by simp⟩, rfl⟩
          · go_ret
            exact ⟨⟨_, rfl, by simp⟩, rfl⟩
          · go_ret
            exact ⟨⟨_, rfl, by simp⟩, rfl⟩
        · have hb3 : s3.length ≤ 1048576 := by omega
          clear b3
          go_wp2
          · go_ret
            exact ⟨⟨_, rfl, by simp⟩, rfl⟩
          · go_ret
            exact ⟨⟨_, rfl, by simp⟩, rfl⟩
          · go_ret
            exact ⟨⟨_, rfl, by simp⟩, rfl⟩
          · go_loop [13, 15] (fun z i => ∃ (t : Int) (k : Nat), k ≤ s3.length ∧ 0 ≤ t ∧ t ≤ 1048576 ∧ z = .int .i64 t ∧ i = .int .i64 k) (fun _ i => s3.length - (intOf i).toNat)
            case atStart => exact ⟨_, 0, Nat.zero_le _, by omega, by omega, rfl, rfl⟩
            case round =>
              obtain ⟨t2, i2, hi2, ht2, ht3, rfl, rfl⟩ := hrel
              by_cases hlt2 : i2 < s3.length
              · obtain ⟨b, off, rfl, hb, hc⟩ := V3.out (by omega)
                have hci := hc i2 hlt2
                clear hc
                go_wp2
                · go_ret
                  exact ⟨⟨_, rfl, by simp⟩, rfl⟩
                · go_ret
                  exact ⟨⟨_, rfl, by simp⟩, rfl⟩
                · go_round
                  case rel => exact ⟨_, i2 + 1, by omega, by omega, by omega, rfl, by go_num⟩
                  case measure => simp [intOf]; omega
              · go_wp2
                all_goals
                  go_ret
                  exact ⟨⟨_, rfl, fun _ => by first | trivial | exact ⟨hb0, hb3⟩⟩, rfl⟩

set_option maxHeartbeats 1000000 in
theorem addSize_any (t : Int) (a : Option Addr) (ss : List ByteArray) (c : Nat) (w : World) (v : View w a ss) (h0 : 0 ≤ t) (h1 : t ≤ 16777216) (hl : ss.length ≤ 1048576) :
    Calls Try.prog 5 #[.int .i64 t, .slice a ss.length c] w fun e w' => RetTo e 16777216 ∧ w' = w := by
  have V : Hid (View w a ss) := v
  clear v
  by_cases ht : 1048576 < t
  · go_enter Try.func5, Try.ntmps5
    go_wp2
    go_ret
    exact ⟨⟨_, rfl, by omega, by omega⟩, rfl⟩
  · go_enter Try.func5, Try.ntmps5
    go_wp2
    go_loop [0, 5] (fun z i => ∃ (t : Int) (k : Nat), k ≤ ss.length ∧ 0 ≤ t ∧ t ≤ 16777216 ∧ z = .int .i64 t ∧ i = .int .i64 k) (fun _ i => ss.length - (intOf i).toNat)
    case atStart => exact ⟨_, 0, Nat.zero_le _, by omega, by omega, rfl, rfl⟩
    case round =>
      obtain ⟨t2, i, hi, ht0, ht1, rfl, rfl⟩ := hrel
      by_cases hlt : i < ss.length
      · obtain ⟨b, off, rfl, hb, hc⟩ := V.out (by omega)
        have hci := hc i hlt
        clear hc
        by_cases hbig : 1048576 < t2
        · go_wp2
          go_ret
          exact ⟨⟨_, rfl, by omega, by omega⟩, rfl⟩
        · by_cases hs : 1048576 < ss[i].size
          · go_wp2
            go_ret
            exact ⟨⟨_, rfl, by omega, by omega⟩, rfl⟩
          · go_wp2
            go_round
            case rel => exact ⟨_, i + 1, by omega, by omega, by omega, rfl, by go_num⟩
            case measure => simp [intOf]; omega
      · go_wp2
        go_ret
        exact ⟨⟨_, rfl, by omega, by omega⟩, rfl⟩

set_option maxHeartbeats 400000 in
theorem addLen_any (t : Int) (n : Nat) (w : World) (h0 : 0 ≤ t) (h1 : t ≤ 16777216) :
    Calls Try.prog 6 #[.int .i64 t, .int .i64 n] w fun e w' => RetTo e 16777216 ∧ w' = w := by
  by_cases ht : 1048576 < t
  · go_enter Try.func6, Try.ntmps6
    go_wp2
    go_ret
    exact ⟨⟨_, rfl, by omega, by omega⟩, rfl⟩
  · by_cases hn : 1048576 < n
    · go_enter Try.func6, Try.ntmps6
      go_wp2
      go_ret
      exact ⟨⟨_, rfl, by omega, by omega⟩, rfl⟩
    · go_enter Try.func6, Try.ntmps6
      go_wp2
      go_ret
      exact ⟨⟨_, rfl, by omega, by omega⟩, rfl⟩

theorem Try.info9 : (Try.prog.info? 9).map (fun i => (i.zero, i.size, i.bytes)) = some (some (.string ⟨#[]⟩), 1, 16) := by kernel_rfl
theorem nilEq (a : Option Addr) (n c : Nat) : ∀ w, (binOp .eql 22 (.slice a n c) (.slice none 0 0)).run Try.prog w = .ok (.bool a.isNone) w := fun w => Lib.run_eql_slice_nil w 22 9 a n c 0 0 Try.underlying22

/-- the cells of a row of strings -/
def cs (l : List ByteArray) : List Value := l.map Value.string
theorem cs_length (l : List ByteArray) : (cs l).length = l.length := by simp [cs]
theorem cs_get (l : List ByteArray) (j : Nat) (h : j < l.length) : (cs l)[j]? = some (.string l[j]) := by simp [cs, h]
/-- the slice value v holds the strings l, in a row that is the call's own -/
def Own (w : World) (v : Value) (l : List ByteArray) : Prop := w.ownsRow 0 9 1 v l.length (cs l)

theorem grown_none {w w1 w2 : World} {g : Nat} (h : w.grownBy w1 none) (k : w1.grownBy w2 (some g)) (hg : w.heap.size ≤ g) : w.grownBy w2 none :=
  ⟨k.os.trans h.os, k.tape.trans h.tape, k.output.trans h.output, Nat.le_trans h.size k.size, fun i hi _ => by
    rw [k.block i (Nat.lt_of_lt_of_le hi h.size) (fun e => by cases e; omega), h.block i hi (by simp)]⟩
theorem fill_step {l : List ByteArray} {xs : List Value} {k : Nat} (hk : k < l.length) (hx : ∀ j, j < k → xs[j]? = (cs l)[j]?) (hl : xs.length = l.length) :
    ∀ j, j < k + 1 → (xs.set k (.string l[k]))[j]? = (cs l)[j]? := by
  intro j hj
  rw [List.getElem?_set]
  split
  · rename_i e
    rw [if_pos (by omega), ← e, cs_get l k hk]
  · exact hx j (by omega)
theorem fill_end {l : List ByteArray} {xs : List Value} (hx : ∀ j, j < l.length → xs[j]? = (cs l)[j]?) (hl : xs.length = l.length) : xs = cs l := by
  apply List.ext_getElem?
  intro j
  by_cases h : j < l.length
  · exact hx j h
  · rw [List.getElem?_eq_none (by omega), List.getElem?_eq_none (by rw [cs_length]; omega)]

set_option maxHeartbeats 400000 in
theorem clone_nil (w : World) : Calls Try.prog 7 #[.slice none 0 0] w fun e w' => e = .returned (.slice none 0 0) ∧ w' = w := by
  have hn := nilEq none 0 0
  go_enter Try.func7, Try.ntmps7
  go_wp2
  go_ret
  exact ⟨rfl, rfl⟩

set_option maxHeartbeats 400000 in
theorem clone_some (l : List ByteArray) (ad : Addr) (cap : Nat) (w : World) (hl : l.length ≤ 1048576) (hv : View w (some ad) l) :
    Calls Try.prog 7 #[.slice (some ad) l.length cap] w fun e w' => e = .returned (.slice (some ⟨w.heap.size, 0, none⟩) l.length l.length) ∧ w'.ownsRow 0 9 1 (.slice (some ⟨w.heap.size, 0, none⟩) l.length l.length) l.length (cs l) ∧ w.grownBy w' none := by
  have hn := nilEq (some ad) l.length cap
  obtain ⟨i, hi, hz, hz1, hz2⟩ := info_parts Try.info9
  have HC : Hid (View w (some ad) l) := hv
  clear hv
  go_enter Try.func7, Try.ntmps7
  go_wp2_with (at_make; refine wpList_make_full _ rfl _ _ 22 rfl 0 9 i (.string ⟨#[]⟩) 1 Try.underlying22 hi hz hz1 _ _ _ _ l.length rfl rfl rfl rfl (by rw [hz2]; omega) (by unfold maxLen; omega) (Nat.zero_le _) ?_; intro w1 hown hgrow)
  go_loopw [4] (fun i wr => ∃ (k : Nat) (xs : List Value), k ≤ l.length ∧ i = .int .i64 k ∧ wr.ownsRow 0 9 1 (.slice (some ⟨w.heap.size, 0, none⟩) l.length l.length) l.length xs ∧ w.grownBy wr none ∧ Hid (∀ j, j < k → xs[j]? = (cs l)[j]?)) (fun i _ => l.length - (intOf i).toNat)
  case atStart => exact ⟨0, _, Nat.zero_le _, rfl, hown, hgrow, fun j hj => by omega⟩
  case round =>
    clear hown hgrow hn
    obtain ⟨k, xs, hk, rfl, hown, hgrow, hx⟩ := hrel
    by_cases hlt : k < l.length
    · obtain ⟨b, off, e, hb, hcell⟩ := HC.out (by omega)
      obtain rfl := Option.some.inj e
      have hc1 : wr.cell? ⟨b, off + k, none⟩ = some (.string l[k]) := hgrow.cell (hcell k hlt) (by simp)
      have hf := hown.frozenAt k
      have hxl : xs.length = l.length := by simpa using hown.1
      have hc2 : wr.cell? ⟨w.heap.size, k, none⟩ = some xs[k] := by rw [hown.cellAt k (by omega)]; exact List.getElem?_eq_getElem (by omega)
      have hst := hown.stored k (.string l[k])
      clear hcell
      go_wp2
      go_roundw
      case rel => exact ⟨k + 1, _, by omega, by go_num, hst.1, grown_none hgrow hst.2 (Nat.le_refl _), fill_step hlt hx.out hxl⟩
      case measure => simp [intOf]; omega
    · have hkl : k = l.length := by omega
      have HK : Hid (k = l.length) := hkl
      clear hkl
      go_wp2
      go_ret
      have hxl : xs.length = l.length := by simpa using hown.1
      have e : xs = cs l := fill_end (fun j hj => hx.out j (by rw [HK.out]; exact hj)) hxl
      exact ⟨rfl, by rw [← e]; exact hown, hgrow⟩

/-- a slice of strings that can be read: nil, or a view -/
def Src (w : World) (v : Value) (l : List ByteArray) : Prop :=
  (v = .slice none 0 0 ∧ l = []) ∨ ∃ ad cap, v = .slice (some ad) l.length cap ∧ View w (some ad) l
theorem own_cell {w : World} {g : Nat} {cap : Nat} {l : List ByteArray} (h : Own w (.slice (some ⟨g, 0, none⟩) l.length cap) l) (j : Nat) (hj : j < l.length) : w.cell? ⟨g, j, none⟩ = some (.string l[j]) := by
  rw [World.ownsRow.cellAt h j (by omega), cs_get l j hj]
theorem own_src {w : World} {v : Value} {l : List ByteArray} (h : Own w v l) : Src w v l := by
  rcases h.2 with ⟨rfl, hn⟩ | ⟨g, cap, cur, rfl, _⟩
  · exact .inl ⟨rfl, List.eq_nil_of_length_eq_zero hn⟩
  · exact .inr ⟨_, _, rfl, fun _ => ⟨g, 0, rfl, (World.ownsRow.lt h g rfl).2, fun j hj => by rw [Nat.zero_add]; exact own_cell h j hj⟩⟩

/-- the clone: nil where it was nil; else in a new block -/
theorem clone_any (v : Value) (l : List ByteArray) (w : World) (hl : l.length ≤ 1048576) (hs : Src w v l) :
    Calls Try.prog 7 #[v] w fun e w' => ∃ v', e = .returned v' ∧ Own w' v' l ∧ w.grownBy w' none ∧ (v'.ownBlock = none ∨ v'.ownBlock = some w.heap.size) ∧ (v' = .slice none 0 0 ↔ v = .slice none 0 0) := by
  rcases hs with ⟨rfl, rfl⟩ | ⟨ad, cap, rfl, hc⟩
  · refine (clone_nil w).mono ?_
    rintro e w' ⟨rfl, rfl⟩
    exact ⟨_, rfl, World.ownsRow_nil _ _ _ _, World.grownBy.refl _ _, .inl rfl, Iff.rfl⟩
  · refine (clone_some l ad cap w hl hc).mono ?_
    rintro e w' ⟨rfl, h1, h2⟩
    exact ⟨_, rfl, h1, h2, .inr rfl, by simp⟩

set_option maxHeartbeats 800000 in
theorem same_any (a b : Option Addr) (l : List ByteArray) (c d : Nat) (w : World) (hl : l.length ≤ 1048576) (ha : View w a l) (hb : View w b l) (hn : a.isNone = b.isNone) :
    Calls Try.prog 9 #[.slice a l.length c, .slice b l.length d] w fun e w' => e = .returned (.bool true) ∧ ∃ n, w' = w.drewN n := by
  have hna := nilEq a l.length c
  have hnb := nilEq b l.length d
  have VA : Hid (View w a l) := ha
  have VB : Hid (View w b l) := hb
  clear ha hb
  rw [hn] at hna
  clear hn
  cases hx : b.isNone
  all_goals
    rw [hx] at hna hnb
    have HX : Hid (b.isNone = _) := hx
    clear hx
    go_enter Try.func9, Try.ntmps9
    go_wp2
    go_loopw [5] (fun i wr => ∃ k n : Nat, k ≤ l.length ∧ i = .int .i64 k ∧ wr = w.drewN n) (fun i _ => l.length - (intOf i).toNat)
    case atStart => exact ⟨0, 0, Nat.zero_le _, rfl, rfl⟩
    case round =>
      obtain ⟨k, n, hk, rfl, rfl⟩ := hrel
      by_cases hlt : k < l.length
      · obtain ⟨b1, o1, rfl, _, hc1⟩ := VA.out (by omega)
        obtain ⟨b2, o2, rfl, _, hc2⟩ := VB.out (by omega)
        have c1 := hc1 k hlt
        have c2 := hc2 k hlt
        clear hc1 hc2 hna hnb
        go_wp2_with fail
        go_quiet (fail)
        go_wp2_with fail
        go_roundw
        case rel => exact ⟨k + 1, _, by omega, by go_num, rfl⟩
        case measure => simp [intOf]; omega
      · go_wp2_with fail
        go_ret
        exact ⟨rfl, _, rfl⟩
end Go.Proofs.Qxb6002405a
