import Derived.Test.Qxb6002405aZz
namespace Go.Proofs.Qxb6002405a
open Go.RowKit
set_option linter.unusedVariables false

theorem own_shape {w : World} {v : Value} {l : List ByteArray} (h : Own w v l) : ∃ (ao : Option Addr) (cap : Nat), v = .slice ao l.length cap ∧ View w ao l ∧ (ao.isNone = true ↔ v = .slice none 0 0) := by
  rcases own_src h with ⟨rfl, rfl⟩ | ⟨ad, cap, rfl, hv⟩
  · exact ⟨none, 0, rfl, (fun h => absurd h (by simp)), by simp⟩
  · exact ⟨some ad, cap, rfl, hv, by simp⟩
theorem own_row {w : World} {v : Value} {l : List ByteArray} (h : Own w v l) (hp : 0 < l.length) : ∃ g cap, v = .slice (some ⟨g, 0, none⟩) l.length cap ∧ w.cell? ⟨g, 0, none⟩ = some (.string l[0]) := by
  rcases h.2 with ⟨rfl, hn⟩ | ⟨g, cap, cur, rfl, _, _, h1, h2, _⟩
  · omega
  · exact ⟨g, cap, rfl, own_cell h 0 hp⟩

theorem same_val (v v' : Value) (l : List ByteArray) (w : World) (hl : l.length ≤ 1048576) (h : Own w v l) (h' : Own w v' l) (hn : v = .slice none 0 0 ↔ v' = .slice none 0 0) :
    Calls Try.prog 9 #[v, v'] w fun e w' => e = .returned (.bool true) ∧ ∃ n, w' = w.drewN n := by
  obtain ⟨a, c, rfl, hv, hi⟩ := own_shape h
  obtain ⟨b, d, rfl, hv', hi'⟩ := own_shape h'
  refine same_any a b l c d w hl hv hv' ?_
  rw [Bool.eq_iff_iff, hi, hi', hn]

theorem own_keep {w w' : World} {v : Value} {l : List ByteArray} {M : Nat} {es : Array MapEntry} {c : Nat} (h : Own w v l) (hM : w.heap[M]? = some (.map es c)) (hg : w.grownBy w' (some M)) : Own w' v l := by
  refine World.ownsRow.kept h hg ?_
  rcases h.2 with ⟨rfl, _⟩ | ⟨g, cap, cur, rfl, _, hh, _⟩
  · exact .inl rfl
  · refine .inr fun e => ?_
    simp [Value.ownBlock] at e
    subst e
    rw [hM] at hh
    simp at hh
theorem own_none {w w' : World} {v : Value} {l : List ByteArray} (h : Own w v l) (hg : w.grownBy w' none) : Own w' v l :=
  World.ownsRow.kept h hg (by cases hv : v.ownBlock <;> simp)
theorem own_drewN {w : World} {v : Value} {l : List ByteArray} (h : Own w v l) (n : Nat) : Own (w.drewN n) v l := by
  unfold Own World.ownsRow at *
  simpa using h
theorem heap_keep {w w' : World} {M : Nat} {o : Obj} (h : w.heap[M]? = some o) (hg : w.grownBy w' none) : w'.heap[M]? = some o := by
  rw [hg.block M (lt_of_heap h) (by simp)]; exact h
theorem below_none {B : Nat} {w0 w w' : World} (h : Below B w0 w) (hB : B ≤ w.heap.size) (hg : w.grownBy w' none) : Below B w0 w' := h.grown hg hB (fun k hk => by cases hk)
theorem below_M {B M : Nat} {w0 w w' : World} (h : Below B w0 w) (hB : B ≤ w.heap.size) (hM : B ≤ M) (hg : w.grownBy w' (some M)) : Below B w0 w' := h.grown hg hB (fun k hk => by cases hk; exact hM)

theorem src_view {w : World} {a : Option Addr} {n c : Nat} {l : List ByteArray} (h : Src w (.slice a n c) l) : n = l.length ∧ View w a l := by
  rcases h with ⟨e, rfl⟩ | ⟨ad, cap, e, hv⟩
  · simp at e
    exact ⟨e.2.1, fun h => absurd h (by simp)⟩
  · simp at e
    obtain ⟨rfl, rfl, rfl⟩ := e
    exact ⟨rfl, hv⟩

theorem src_none {w w' : World} {v : Value} {l : List ByteArray} (h : Src w v l) (hg : w.grownBy w' none) : Src w' v l := by
  rcases h with ⟨rfl, rfl⟩ | ⟨ad, cap, rfl, hv⟩
  · exact .inl ⟨rfl, rfl⟩
  · refine .inr ⟨ad, cap, rfl, fun hp => ?_⟩
    obtain ⟨b, off, e, hb, hc⟩ := hv hp
    exact ⟨b, off, e, Nat.lt_of_lt_of_le hb hg.size, fun j hj => hg.cell (hc j hj) (by simp)⟩

set_option maxHeartbeats 2000000 in
set_option maxRecDepth 20000 in
theorem law_absent (a0 : Option Addr) (s0 : List ByteArray) (c0 : Nat) (k : ByteArray) (a3 : Option Addr) (s3 : List ByteArray) (c3 : Nat) (u : ByteArray) (m : Int) (w : World)
    (v0 : Src w (.slice a0 s0.length c0) s0) (v3 : Src w (.slice a3 s3.length c3) s3) (hk : k.size ≤ maxLen) (hu : u.size ≤ maxLen) (h0 : s0.length ≤ maxLen) (h3 : s3.length ≤ maxLen) :
    Calls Try.prog 3 #[.slice a0 s0.length c0, .bool false, .string k, .slice a3 s3.length c3, .string u, .int .i64 m] w fun e w' => e = .returned (.bool true) ∧ Below w.heap.size w w' := by
  have hmm := @run_makeMap Try.prog
  have V0 : Hid (Src w (.slice a0 s0.length c0) s0) := v0
  have V3 : Hid (Src w (.slice a3 s3.length c3) s3) := v3
  clear v0 v3
  go_enter Try.func3, Try.ntmps3
  go_wp2_with fail
  refine (bytes_any _ _ _ _ _ _ _ _ _ _ _ (src_view V0.out).2 (src_view V3.out).2 hk hu h0 h3).mono ?_
  rintro e w' ⟨⟨b, rfl, hb⟩, hw⟩
  rw [hw]
  clear hw
  cases b
  · go_wp2_with fail
    go_ret
    exact ⟨rfl, Below.refl _ _⟩
  · obtain ⟨hl0, hl3⟩ := hb rfl
    clear hb h0 h3 hk hu
    go_wp2_with fail
    refine (addSize_any _ _ _ _ _ (src_view V0.out).2 (by omega) (by omega) hl0).mono ?_
    rintro e w' ⟨⟨t1, rfl, ht1, ht1'⟩, hw⟩
    rw [hw]
    clear hw
    go_wp2_with fail
    refine (addSize_any _ _ _ _ _ (src_view V3.out).2 ht1 ht1' hl3).mono ?_
    rintro e w' ⟨⟨t2, rfl, ht2, ht2'⟩, hw⟩
    rw [hw]
    clear hw
    go_wp2_with fail
    refine (addLen_any _ _ _ ht2 ht2').mono ?_
    rintro e w' ⟨⟨t3, rfl, ht3, ht3'⟩, hw⟩
    rw [hw]
    clear hw
    go_wp2_with fail
    refine (addLen_any _ _ _ ht3 ht3').mono ?_
    rintro e w' ⟨⟨t4, rfl, ht4, ht4'⟩, hw⟩
    rw [hw]
    clear hw ht1 ht1' ht2 ht2' ht3 ht3'
    by_cases hbig : 1048576 < t4
    · go_wp2_with fail
      go_ret
      exact ⟨rfl, Below.refl _ _⟩
    · cases hkh : (k.toList == [72, 111, 115, 116])
      · have hhk : host ≠ k := fun e => host_ne k hkh e.symm
        go_wp2_with fail
        refine (clone_any _ s0 _ hl0 V0.out).mono ?_
        rintro e w1 ⟨v1, rfl, ho1, hg1, -, hn1⟩
        have V3' : Hid (Src w1 (.slice a3 s3.length c3) s3) := src_none V3.out hg1
        go_wp2_with fail
        refine (clone_any _ s3 _ hl3 V3'.out).mono ?_
        rintro e w2 ⟨v2, rfl, ho2, hg2, -, hn2⟩
        go_wp2_with fail
        refine (clone_any v2 s3 _ hl3 (own_src (own_none ho2 (World.grownBy_alloc _ _ _)))).mono ?_
        rintro e w4 ⟨v4, rfl, ho4, hg4, -, hn4⟩
        have hM4 : w4.heap[w2.heap.size]? = some (.map #[] 0) := heap_keep (heap_alloc_new w2 _) hg4
        have hu := upd0 (t := 27) Try.underlying27 hM4 k v4
        have hb4 : Below w.heap.size w w4 := below_none ((below_none (below_none (Below.refl _ _) (Nat.le_refl _) hg1) hg1.size hg2).alloc (Nat.le_trans hg1.size hg2.size) _) (by have := hg1.size; have := hg2.size; simp; omega) hg4
        have hB4 : w.heap.size ≤ w2.heap.size := Nat.le_trans hg1.size hg2.size
        have hS4 : w.heap.size ≤ w4.heap.size := hb4.size
        have ho24 : Own w4 v2 s3 := own_none (own_none ho2 (World.grownBy_alloc _ _ _)) hg4
        have hl4 := lt_of_heap hM4
        obtain ⟨W, hW⟩ : ∃ W, W = putMap w4 w2.heap.size (.map #[Ent k v4 0] (0 + 1)) := ⟨_, rfl⟩
        have hMW : W.heap[w2.heap.size]? = some (.map #[Ent k v4 0] 1) := by rw [hW]; exact putMap_at _ hl4
        have hgW : w4.grownBy W (some w2.heap.size) := by rw [hW]; exact putMap_grown _ _ _
        rw [← hW] at hu
        have hbW : Below w.heap.size w W := below_M hb4 hS4 hB4 hgW
        have hoW4 : Own W v4 s3 := own_keep ho4 hM4 hgW
        have hoW2 : Own W v2 s3 := own_keep ho24 hM4 hgW
        have HMW : Hid (W.heap[w2.heap.size]? = some (.map #[Ent k v4 0] 1)) := hMW
        clear hW hb4 ho4 ho24 hgW hM4 ho1 ho2 hMW hg1 hg2 hg4
        go_wp2_with fail
        refine (zz_absent w2.heap.size 1 k v4 u m _ HMW.out hhk).mono ?_
        intro e w6 hA
        rcases hA with ⟨s, p, rfl, hg6⟩ | ⟨s, c, rfl, hg6, hm6⟩
        · have hm6 := heap_keep HMW.out hg6
          have hb6 := below_none hbW hbW.size hg6
          have ho64 := own_none hoW4 hg6
          have ho62 := own_none hoW2 hg6
          have hl1 := look1_hit (t := 27) Try.underlying27 hm6
          clear hg6 hu
          go_wp2_with fail
          refine (same_val v4 v2 s3 _ hl3 ho64 ho62 hn4).mono ?_
          rintro e w7 ⟨rfl, n, hw⟩
          have hm7 : w7.heap[w2.heap.size]? = some (.map #[Ent k v4 0] 1) := by rw [hw]; exact hm6
          have hl2 := look1_miss (t := 27) Try.underlying27 hm7 host hhk
          have hle := fun ty => len1 (t := 27) ty Try.underlying27 hm7
          unfold host at hl2
          have hb7 : Below w.heap.size w w7 := by rw [hw]; exact ⟨hb6.os, hb6.tape, hb6.output, hb6.size, hb6.block⟩
          clear hw hl1 hm6 hm7
          go_wp2_with fail
          go_ret
          exact ⟨rfl, hb7⟩
        · have hb6 := below_M hbW hbW.size hB4 hg6
          have ho64 := own_keep hoW4 HMW.out hg6
          have ho62 := own_keep hoW2 HMW.out hg6
          have hl1 := look1_hit (t := 27) Try.underlying27 hm6
          clear hg6 hu
          go_wp2_with fail
          refine (same_val v4 v2 s3 _ hl3 ho64 ho62 hn4).mono ?_
          rintro e w7 ⟨rfl, n, hw⟩
          have hm7 : w7.heap[w2.heap.size]? = some (.map #[Ent k v4 0] c) := by rw [hw]; exact hm6
          have hl2 := look1_miss (t := 27) Try.underlying27 hm7 host hhk
          have hle := fun ty => len1 (t := 27) ty Try.underlying27 hm7
          unfold host at hl2
          have hb7 : Below w.heap.size w w7 := by rw [hw]; exact ⟨hb6.os, hb6.tape, hb6.output, hb6.size, hb6.block⟩
          clear hw hl1 hm6 hm7
          go_wp2_with fail
          go_ret
          exact ⟨rfl, hb7⟩
      · go_wp2_with fail
        go_ret
        exact ⟨rfl, Below.refl _ _⟩
end Go.Proofs.Qxb6002405a
