import Derived.Test.Qxb6002405aReq
namespace Go.Proofs.Qxb6002405a
open Go.RowKit
set_option linter.unusedVariables false

theorem ans_from {M : Nat} {k : ByteArray} {v1 : Value} {w w1 w' : World} {e : Ending} (hg : ∀ row, w.grownBy w1 row) (h : Answer M k v1 w1 e w') : Answer M k v1 w e w' := by
  rcases h with ⟨s, p, rfl, h⟩ | ⟨s, c, rfl, h, hm⟩
  · exact .inl ⟨s, p, rfl, grownBy_trans (hg none) h⟩
  · exact .inr ⟨s, c, rfl, grownBy_trans (hg _) h, hm⟩

set_option maxHeartbeats 800000 in
theorem zz_absent (M clock : Nat) (k : ByteArray) (v1 : Value) (uh : ByteArray) (minor : Int) (w : World) (h : w.heap[M]? = some (.map #[Ent k v1 0] clock)) (hk : host ≠ k) :
    Calls Try.prog 8 #[.map (some M), .string uh, .int .i64 minor] w fun e w' => Answer M k v1 w e w' := by
  have hlt := lt_of_heap h
  have H : ∀ o, (w.alloc o).heap[M]? = some (.map #[Ent k v1 0] clock) := fun o => (Below.heap_alloc w o M hlt).trans h
  go_enter Try.func8, Try.ntmps8
  go_wp2_with fail
  refine (req_absent M clock k v1 w.heap.size uh minor _ (H _) hk ?hU (by omega)).mono ?_
  case hU => simp
  intro e w' hA
  have hB := ans_from (fun row => World.grownBy_alloc w _ row) hA
  clear hA
  rcases hB with ⟨s, p, rfl, hg⟩ | ⟨s, c, rfl, hg, hm⟩
  · go_wp2
    go_ret2
    exact ans_no hg
  · have HM : Hid (w'.heap[M]? = some (.map #[Ent k v1 0] c)) := hm
    clear hm
    go_wp2
    go_ret2
    exact ans_yes hg HM.out

set_option maxHeartbeats 800000 in
theorem zz_present (M clock : Nat) (k : ByteArray) (v1 : Value) (g c2 : Nat) (l : List ByteArray) (hl1 : 1 ≤ l.length) (hl2 : l.length ≤ 1048576) (uh : ByteArray) (minor : Int) (w : World)
    (h : w.heap[M]? = some (.map #[Ent k v1 0, Ent host (.slice (some ⟨g, 0, none⟩) l.length c2) 1] clock)) (hk : host ≠ k) (hc : w.cell? ⟨g, 0, none⟩ = some (.string l[0])) (hs : l[0].size ≤ maxLen) (hgM : g ≠ M) :
    Calls Try.prog 8 #[.map (some M), .string uh, .int .i64 minor] w fun e w' => Answer M k v1 w e w' := by
  have hlt := lt_of_heap h
  have hgl := World.block_lt_of_cell? w _ hc
  have H : ∀ o, (w.alloc o).heap[M]? = some (.map #[Ent k v1 0, Ent host (.slice (some ⟨g, 0, none⟩) l.length c2) 1] clock) := fun o => (Below.heap_alloc w o M hlt).trans h
  have HC : ∀ o, (w.alloc o).cell? ⟨g, 0, none⟩ = some (.string l[0]) := fun o => (World.grownBy_alloc w o none).cell hc (by simp)
  go_enter Try.func8, Try.ntmps8
  go_wp2_with fail
  refine (req_present M clock k v1 g c2 l hl1 hl2 w.heap.size uh minor _ (H _) hk (HC _) hs ?hU (by omega) hgM).mono ?_
  case hU => simp
  intro e w' hA
  have hB := ans_from (fun row => World.grownBy_alloc w _ row) hA
  clear hA
  rcases hB with ⟨s, p, rfl, hg⟩ | ⟨s, c, rfl, hg, hm⟩
  · go_wp2
    go_ret2
    exact ans_no hg
  · have HM : Hid (w'.heap[M]? = some (.map #[Ent k v1 0] c)) := hm
    clear hm
    go_wp2
    go_ret2
    exact ans_yes hg HM.out
end Go.Proofs.Qxb6002405a
