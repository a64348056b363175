import Derived.Test.Qxb6002405aMap
namespace Go.Proofs.Qxb6002405a
open Go.RowKit
set_option linter.unusedVariables false

set_option maxHeartbeats 400000 in
theorem badRequest_any (s : ByteArray) (w : World) : Calls Try.prog 11 #[.string s] w fun e w' => e = .returned (.pointer (some ⟨w.heap.size, 0, none⟩)) ∧ ∃ o, w' = w.alloc o := by
  go_enter Try.func11, Try.ntmps11
  go_wp2
  go_ret
  exact ⟨rfl, _, rfl⟩

/-- what requestHost does: it refuses, and the map stands; or it accepts, and the map is left with its one other entry -/
def Answer (M : Nat) (k : ByteArray) (v1 : Value) (w : World) (e : Ending) (w' : World) : Prop :=
  (∃ s p, e = .returned (.tuple #[.string s, .iface 40 (.pointer (some p))]) ∧ w.grownBy w' none) ∨
  (∃ s c, e = .returned (.tuple #[.string s, .nilIface]) ∧ w.grownBy w' (some M) ∧ w'.heap[M]? = some (.map #[Ent k v1 0] c))

theorem grown_drewN (w : World) (n : Nat) (row : Option Nat) : w.grownBy (w.drewN n) row := ⟨rfl, rfl, rfl, Nat.le_refl _, fun _ _ _ => rfl⟩
theorem grownBy_trans {a b c : World} {row : Option Nat} (h : a.grownBy b row) (k : b.grownBy c row) : a.grownBy c row :=
  ⟨k.os.trans h.os, k.tape.trans h.tape, k.output.trans h.output, Nat.le_trans h.size k.size, fun i hi hne => (k.block i (Nat.lt_of_lt_of_le hi h.size) hne).trans (h.block i hi hne)⟩

theorem ans_no {M : Nat} {k : ByteArray} {v1 : Value} {w w' : World} {s : ByteArray} {p : Addr} (h : w.grownBy w' none) : Answer M k v1 w (.returned (.tuple #[.string s, .iface 40 (.pointer (some p))])) w' := .inl ⟨s, p, rfl, h⟩
theorem ans_yes {M : Nat} {k : ByteArray} {v1 : Value} {w w' : World} {s : ByteArray} {c : Nat} (h : w.grownBy w' (some M)) (hm : w'.heap[M]? = some (.map #[Ent k v1 0] c)) : Answer M k v1 w (.returned (.tuple #[.string s, .nilIface])) w' := .inr ⟨s, c, rfl, h, hm⟩

theorem cell_put {w : World} {M U : Nat} {o : Obj} {off : Nat} {v : Value} (h : w.cell? ⟨U, off, none⟩ = some v) (hne : U ≠ M) : (putMap w M o).cell? ⟨U, off, none⟩ = some v :=
  (putMap_grown w M o).cell h (fun e => hne (by simpa using e))

set_option maxHeartbeats 800000 in
theorem req_absent (M clock : Nat) (k : ByteArray) (v1 : Value) (U : Nat) (uh : ByteArray) (minor : Int) (w : World) (h : w.heap[M]? = some (.map #[Ent k v1 0] clock)) (hk : host ≠ k)
    (hU : w.cell? ⟨U, 3, none⟩ = some (.string uh)) (hUM : U ≠ M) :
    Calls Try.prog 10 #[.map (some M), .pointer (some ⟨U, 0, none⟩), .int .i64 minor] w fun e w' => Answer M k v1 w e w' := by
  have hl := look1_miss (t := 35) Try.underlying35 h host hk
  have hd := fun ty => del1_miss (t := 35) ty Try.underlying35 h host hk
  have hU2 := cell_put (o := .map #[Ent k v1 0] clock) hU hUM
  have hA : Hid ((putMap w M (.map #[Ent k v1 0] clock)).heap[M]? = some (.map #[Ent k v1 0] clock)) := putMap_at _ (lt_of_heap h)
  unfold host at hl hd
  by_cases hm : 1 ≤ minor
  · go_enter Try.func10, Try.ntmps10
    go_wp2_with (go_at_call 11; refine (badRequest_any _ _).mono ?_; rintro e w' ⟨rfl, o, rfl⟩)
    go_ret2
    exact ans_no (World.grownBy_alloc _ _ _)
  · cases he : uh.toList.isEmpty
    · go_enter Try.func10, Try.ntmps10
      go_wp2_with fail
      go_ret2
      exact ans_yes (putMap_grown _ _ _) hA.out
    · go_enter Try.func10, Try.ntmps10
      go_wp2_with fail
      go_ret2
      exact ans_yes (putMap_grown _ _ _) hA.out

set_option maxHeartbeats 1600000 in
theorem req_present (M clock : Nat) (k : ByteArray) (v1 : Value) (g c2 : Nat) (l : List ByteArray) (hl1 : 1 ≤ l.length) (hl2 : l.length ≤ 1048576) (U : Nat) (uh : ByteArray) (minor : Int) (w : World)
    (h : w.heap[M]? = some (.map #[Ent k v1 0, Ent host (.slice (some ⟨g, 0, none⟩) l.length c2) 1] clock)) (hk : host ≠ k) (hc : w.cell? ⟨g, 0, none⟩ = some (.string l[0])) (hs : l[0].size ≤ maxLen)
    (hU : w.cell? ⟨U, 3, none⟩ = some (.string uh)) (hUM : U ≠ M) (hgM : g ≠ M) :
    Calls Try.prog 10 #[.map (some M), .pointer (some ⟨U, 0, none⟩), .int .i64 minor] w fun e w' => Answer M k v1 w e w' := by
  have hl := look2_snd (t := 35) Try.underlying35 hk h
  unfold host at hl
  by_cases h1 : 1 < l.length
  · go_enter Try.func10, Try.ntmps10
    go_wp2_with (go_at_call 11; refine (badRequest_any _ _).mono ?_; rintro e w' ⟨rfl, o, rfl⟩)
    go_ret2
    exact ans_no (World.grownBy_alloc _ _ _)
  · have h1' : l.length ≤ 1 := by omega
    go_enter Try.func10, Try.ntmps10
    go_wp2_with fail
    refine (isHost_any _ _ hs).mono ?_
    rintro e w1 ⟨b, rfl, n, hw⟩
    rw [hw]
    clear hw
    cases b
    · go_wp2_with (go_at_call 11; refine (badRequest_any _ _).mono ?_; rintro e w' ⟨rfl, o, rfl⟩)
      go_ret2
      exact ans_no (grownBy_trans (grown_drewN w n none) (World.grownBy_alloc _ _ _))
    · obtain ⟨W, hW⟩ : ∃ W, W = w.drewN n := ⟨_, rfl⟩
      have hM : W.heap[M]? = some (.map #[Ent k v1 0, Ent host (.slice (some ⟨g, 0, none⟩) l.length c2) 1] clock) := by rw [hW]; exact h
      have hd := fun ty => del2_snd (t := 35) ty Try.underlying35 hk hM
      have hA : Hid ((putMap W M (.map #[Ent k v1 0] clock)).heap[M]? = some (.map #[Ent k v1 0] clock)) := putMap_at _ (lt_of_heap hM)
      have hU2 : (putMap W M (.map #[Ent k v1 0] clock)).cell? ⟨U, 3, none⟩ = some (.string uh) := cell_put (by rw [hW]; exact hU) hUM
      have hc2 : (putMap W M (.map #[Ent k v1 0] clock)).cell? ⟨g, 0, none⟩ = some (.string l[0]) := cell_put (by rw [hW]; exact hc) hgM
      have hG : Hid (w.grownBy W (some M)) := by rw [hW]; exact grown_drewN w n _
      unfold host at hd
      rw [← hW]
      clear hl hW hM h
      cases he : uh.toList.isEmpty
      · go_wp2_with fail
        go_ret2
        exact ans_yes (grownBy_trans hG.out (putMap_grown _ _ _)) hA.out
      · go_wp2_with fail
        go_ret2
        exact ans_yes (grownBy_trans hG.out (putMap_grown _ _ _)) hA.out
end Go.Proofs.Qxb6002405a
