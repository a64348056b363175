import Derived.Test.Qxb6002405aLaw
namespace Go.Proofs.Qxb6002405a
open Go.RowKit
set_option linter.unusedVariables false

set_option maxHeartbeats 2000000 in
set_option maxRecDepth 20000 in
theorem law_present (a0 : Option Addr) (s0 : List ByteArray) (c0 : Nat) (k : ByteArray) (a3 : Option Addr) (s3 : List ByteArray) (c3 : Nat) (u : ByteArray) (m : Int) (w : World)
    (v0 : Src w (.slice a0 s0.length c0) s0) (v3 : Src w (.slice a3 s3.length c3) s3) (hk : k.size ≤ maxLen) (hu : u.size ≤ maxLen) (h0 : s0.length ≤ maxLen) (h3 : s3.length ≤ maxLen) (hz : ∀ x ∈ s0, x.size ≤ maxLen) :
    Calls Try.prog 3 #[.slice a0 s0.length c0, .bool true, .string k, .slice a3 s3.length c3, .string u, .int .i64 m] w fun e w' => e = .returned (.bool true) ∧ Below w.heap.size w w' := by
  have hmm := @run_makeMap Try.prog
  have V0 : Hid (Src w (.slice a0 s0.length c0) s0) := v0
  have V3 : Hid (Src w (.slice a3 s3.length c3) s3) := v3
  have HZ : Hid (∀ x ∈ s0, x.size ≤ maxLen) := hz
  clear v0 v3 hz
  go_enter Try.func3, Try.ntmps3
  go_wp2_with fail
  refine (bytes_any _ _ _ _ _ _ _ _ _ _ _ (src_view V0.out).2 (src_view V3.out).2 hk hu h0 h3).mono ?_
  rintro e w' ⟨⟨b, rfl, hb⟩, hw⟩
  rw [hw]
  clear hw
  cases b
  · go_wp2_with fail
    go_ret
    exact ⟨rfl, Below.refl _ _⟩
  · obtain ⟨hl0, hl3⟩ := hb rfl
    clear hb h0 h3 hk hu
    go_wp2_with fail
    refine (addSize_any _ _ _ _ _ (src_view V0.out).2 (by omega) (by omega) hl0).mono ?_
    rintro e w' ⟨⟨t1, rfl, ht1, ht1'⟩, hw⟩
    rw [hw]
    clear hw
    go_wp2_with fail
    refine (addSize_any _ _ _ _ _ (src_view V3.out).2 ht1 ht1' hl3).mono ?_
    rintro e w' ⟨⟨t2, rfl, ht2, ht2'⟩, hw⟩
    rw [hw]
    clear hw
    go_wp2_with fail
    refine (addLen_any _ _ _ ht2 ht2').mono ?_
    rintro e w' ⟨⟨t3, rfl, ht3, ht3'⟩, hw⟩
    rw [hw]
    clear hw
    go_wp2_with fail
    refine (addLen_any _ _ _ ht3 ht3').mono ?_
    rintro e w' ⟨⟨t4, rfl, ht4, ht4'⟩, hw⟩
    rw [hw]
    clear hw ht1 ht1' ht2 ht2' ht3 ht3'
    by_cases hbig : 1048576 < t4
    · go_wp2_with fail
      go_ret
      exact ⟨rfl, Below.refl _ _⟩
    · by_cases hpos : 0 < s0.length
      · have hne0 : ((s0.length : Int) == 0) = false := beq_eq_false_iff_ne.2 (by omega)
        cases hkh : (k.toList == [72, 111, 115, 116])
        · have hhk : host ≠ k := fun e => host_ne k hkh e.symm
          go_wp2_with fail
          refine (clone_any _ s0 _ hl0 V0.out).mono ?_
          rintro e w1 ⟨v1, rfl, ho1, hg1, -, hn1⟩
          have V3' : Hid (Src w1 (.slice a3 s3.length c3) s3) := src_none V3.out hg1
          go_wp2_with fail
          refine (clone_any _ s3 _ hl3 V3'.out).mono ?_
          rintro e w2 ⟨v2, rfl, ho2, hg2, -, hn2⟩
          go_wp2_with fail
          refine (clone_any v2 s3 _ hl3 (own_src (own_none ho2 (World.grownBy_alloc _ _ _)))).mono ?_
          rintro e w4 ⟨v4, rfl, ho4, hg4, -, hn4⟩
          have hM4 : w4.heap[w2.heap.size]? = some (.map #[] 0) := heap_keep (heap_alloc_new w2 _) hg4
          have hu := upd0 (t := 27) Try.underlying27 hM4 k v4
          have hb4 : Below w.heap.size w w4 := below_none ((below_none (below_none (Below.refl _ _) (Nat.le_refl _) hg1) hg1.size hg2).alloc (Nat.le_trans hg1.size hg2.size) _) (by have := hg1.size; have := hg2.size; simp; omega) hg4
          have hB4 : w.heap.size ≤ w2.heap.size := Nat.le_trans hg1.size hg2.size
          have hS4 : w.heap.size ≤ w4.heap.size := hb4.size
          have ho24 : Own w4 v2 s3 := own_none (own_none ho2 (World.grownBy_alloc _ _ _)) hg4
          have hl4 := lt_of_heap hM4
          have ho14 : Own w4 v1 s0 := own_none (own_none (own_none ho1 hg2) (World.grownBy_alloc _ _ _)) hg4
          obtain ⟨W, hW⟩ : ∃ W, W = putMap w4 w2.heap.size (.map #[Ent k v4 0] (0 + 1)) := ⟨_, rfl⟩
          have hMW : W.heap[w2.heap.size]? = some (.map #[Ent k v4 0] 1) := by rw [hW]; exact putMap_at _ hl4
          have hgW : w4.grownBy W (some w2.heap.size) := by rw [hW]; exact putMap_grown _ _ _
          rw [← hW] at hu
          have hbW : Below w.heap.size w W := below_M hb4 hS4 hB4 hgW
          have hoW4 : Own W v4 s3 := own_keep ho4 hM4 hgW
          have hoW2 : Own W v2 s3 := own_keep ho24 hM4 hgW
          have hoW1 : Own W v1 s0 := own_keep ho14 hM4 hgW
          have HMW : Hid (W.heap[w2.heap.size]? = some (.map #[Ent k v4 0] 1)) := hMW
          clear hW hb4 ho4 ho24 ho14 hgW hM4 ho1 ho2 hMW hg1 hg2 hg4
          go_wp2_with fail
          refine (clone_any v1 s0 _ hl0 (own_src hoW1)).mono ?_
          rintro e w8 ⟨v8, rfl, ho8, hg8, -, hn8⟩
          have hM8 := heap_keep HMW.out hg8
          have hu8 := upd1 (t := 27) Try.underlying27 hM8 host hhk v8
          have hb8 := below_none hbW hbW.size hg8
          have ho81 := own_none hoW1 hg8
          have ho84 := own_none hoW4 hg8
          have ho82 := own_none hoW2 hg8
          have hl8 := lt_of_heap hM8
          obtain ⟨W2, hW2⟩ : ∃ W2, W2 = putMap w8 w2.heap.size (.map #[Ent k v4 0, Ent host v8 1] (1 + 1)) := ⟨_, rfl⟩
          have hMW2 : W2.heap[w2.heap.size]? = some (.map #[Ent k v4 0, Ent host v8 1] 2) := by rw [hW2]; exact putMap_at _ hl8
          have hgW2 : w8.grownBy W2 (some w2.heap.size) := by rw [hW2]; exact putMap_grown _ _ _
          rw [← hW2] at hu8
          have hbW2 : Below w.heap.size w W2 := below_M hb8 hb8.size hB4 hgW2
          have hoX4 := own_keep ho84 hM8 hgW2
          have hoX2 := own_keep ho82 hM8 hgW2
          have hoX1 := own_keep ho81 hM8 hgW2
          have hoX8 := own_keep ho8 hM8 hgW2
          obtain ⟨g8, c8, e8, hc8⟩ := own_row hoX8 hpos
          have hg8M : g8 ≠ w2.heap.size := by
            rintro rfl
            unfold World.cell? at hc8
            simp [hMW2] at hc8
          have HMW2 : Hid (W2.heap[w2.heap.size]? = some (.map #[Ent k v4 0, Ent host v8 1] 2)) := hMW2
          have HM3 : Hid (W2.heap[w2.heap.size]? = some (.map #[Ent k v4 0, Ent host (.slice (some ⟨g8, 0, none⟩) s0.length c8) 1] 2)) := by rw [← e8]; exact hMW2
          have hz0 : s0[0].size ≤ maxLen := HZ.out _ (List.getElem_mem _)
          have HE8 : Hid (v8 = .slice (some ⟨g8, 0, none⟩) s0.length c8) := e8
          clear hW2 hgW2 hb8 ho8 ho81 ho82 ho84 hM8 hMW2 hg8 e8 hoW1 hoW2 hoW4 hu
          unfold host at hu8
          go_wp2_with fail
          refine (zz_present w2.heap.size 2 k v4 g8 c8 s0 hpos hl0 u m _ HM3.out hhk hc8 hz0 hg8M).mono ?_
          intro e w6 hA
          clear hc8
          rcases hA with ⟨s, p, rfl, hg6⟩ | ⟨s, c, rfl, hg6, hm6⟩
          · have hm6 := heap_keep HMW2.out hg6
            have hb6 := below_none hbW2 hbW2.size hg6
            have ho64 := own_none hoX4 hg6
            have ho62 := own_none hoX2 hg6
            have ho61 := own_none hoX1 hg6
            have ho68 := own_none hoX8 hg6
            have hl1 := look2_fst (t := 27) Try.underlying27 hm6
            clear hg6 hu8 hoX1 hoX2 hoX4 hoX8
            go_wp2_with fail
            refine (same_val v4 v2 s3 _ hl3 ho64 ho62 hn4).mono ?_
            rintro e w7 ⟨rfl, n, hw⟩
            have hm7 : w7.heap[w2.heap.size]? = some (.map #[Ent k v4 0, Ent host v8 1] 2) := by rw [hw]; exact hm6
            have hl2 := look2_snd (t := 27) Try.underlying27 hhk hm7
            have ho71 : Own w7 v1 s0 := by rw [hw]; exact own_drewN ho61 n
            have ho78 : Own w7 v8 s0 := by rw [hw]; exact own_drewN ho68 n
            unfold host at hl2
            have hb7 : Below w.heap.size w w7 := by rw [hw]; exact ⟨hb6.os, hb6.tape, hb6.output, hb6.size, hb6.block⟩
            clear hw hl1 hm6 ho61 ho68
            go_wp2_with fail
            refine (same_val v8 v1 s0 _ hl0 ho78 ho71 hn8).mono ?_
            rintro e w9 ⟨rfl, n9, hw⟩
            have hm9 : w9.heap[w2.heap.size]? = some (.map #[Ent k v4 0, Ent host v8 1] 2) := by rw [hw]; exact hm7
            have hle := fun ty => len2 (t := 27) ty Try.underlying27 hm9
            have hb9 : Below w.heap.size w w9 := by rw [hw]; exact ⟨hb7.os, hb7.tape, hb7.output, hb7.size, hb7.block⟩
            clear hw hl2 hm7 hm9
            go_wp2_with fail
            go_ret
            exact ⟨rfl, hb9⟩
          · have hb6 := below_M hbW2 hbW2.size hB4 hg6
            have ho64 := own_keep hoX4 HMW2.out hg6
            have ho62 := own_keep hoX2 HMW2.out hg6
            have hl1 := look1_hit (t := 27) Try.underlying27 hm6
            clear hg6 hu8 hoX1 hoX2 hoX4 hoX8
            go_wp2_with fail
            refine (same_val v4 v2 s3 _ hl3 ho64 ho62 hn4).mono ?_
            rintro e w7 ⟨rfl, n, hw⟩
            have hm7 : w7.heap[w2.heap.size]? = some (.map #[Ent k v4 0] c) := by rw [hw]; exact hm6
            have hl2 := look1_miss (t := 27) Try.underlying27 hm7 host hhk
            have hle := fun ty => len1 (t := 27) ty Try.underlying27 hm7
            unfold host at hl2
            have hb7 : Below w.heap.size w w7 := by rw [hw]; exact ⟨hb6.os, hb6.tape, hb6.output, hb6.size, hb6.block⟩
            clear hw hl1 hm6 hm7
            go_wp2_with fail
            go_ret
            exact ⟨rfl, hb7⟩
        · go_wp2_with fail
          go_ret
          exact ⟨rfl, Below.refl _ _⟩
      · have hz0 : ((s0.length : Int) == 0) = true := beq_iff_eq.2 (by omega)
        go_wp2_with fail
        go_ret
        exact ⟨rfl, Below.refl _ _⟩
end Go.Proofs.Qxb6002405a
