import Derived.Test.Qxb6001690aLf
namespace Go.Proofs.Qxb6001690a
open Go.RowKit

theorem cr_step {T P rest : List UInt8} {pos : Nat} (h : T.drop pos = P ++ bl ⟨#[13, 10]⟩ ++ rest) : T.drop pos = (P ++ [13]) ++ [10] ++ rest := by
  rw [h]; simp [bl]
theorem cr_no10 {P : List UInt8} (h : (10 : UInt8) ∉ P) : (10 : UInt8) ∉ P ++ [13] := by
  simp [h]
theorem cr_piece {pc : ByteArray} {P : List UInt8} (h : bl pc = P ++ [13]) : ∃ h0 : 0 < pc.size, ((pc.size : Int) == 0) = false ∧ ((pc[pc.size - 1]'(by omega)).toNat : Int) = 13 ∧ bl (pc.extract 0 (pc.size - 1)) = P := by
  have hl := congrArg List.length h
  rw [bl_length] at hl
  simp at hl
  have h0 : 0 < pc.size := by omega
  refine ⟨h0, sz_ne pc h0, ?_, ?_⟩
  · have e := bl_get pc (pc.size - 1) (by omega)
    rw [h, List.getElem?_append_right (by omega), show pc.size - 1 - P.length = 0 by omega] at e
    simp at e
    rw [← e]; rfl
  · rw [bl_extract, h, show pc.size - 1 - 0 = P.length by omega, List.drop_zero, List.take_left]

set_option maxHeartbeats 2000000 in
set_option maxRecDepth 20000 in
theorem law_crlf (a : Option Addr) (l : List UInt8) (c : Nat) (name value : ByteArray) (q : Bool) (w : World) (hb : l.length + name.size + value.size ≤ 1048576) (hsrc : Src w (.slice a l.length c) l)
    (h1 : hasB (bl name) 10 = false) (h2 : hasB (bl name) 13 = false) (h3 : hasB (bl value) 13 = false) :
    Calls Try.prog 5 #[.slice a l.length c, .string name, .string value, .bool true, .bool q] w fun e w' => e = .returned (.bool true) ∧ Below w.heap.size w w' := by
  have h0 : (0 : Int) ≤ l.length := by omega
  have HN : Hid (hasB (bl name) 10 = false) := h1
  go_enter Try.func5, Try.ntmps5
  go_wp2_with (first | (go_at_call 23; refine (bytes_ok _ _ _ _ _ _ _ _ hb).mono ?_; rintro e w' ⟨rfl, rfl⟩) | (go_at_call 24; refine (bytesBytes_any _ _ _ _ (by omega)).mono ?_; rintro e w' ⟨rfl, rfl⟩) | (go_at_call 16; refine (strBytes_any _ _ _ (by omega) (by omega)).mono ?_; rintro e w' ⟨rfl, rfl⟩) | (go_at_call 25; refine (hasByte_any _ _ _ (by unfold maxLen; omega)).mono ?_; rintro e w' ⟨rfl, rfl⟩; first | rw [h1] | rw [h2] | rw [h3]))
  refine (clone_any _ l _ (by omega) hsrc).mono ?_
  rintro e w1 ⟨v1, rfl, ho1, hg1, hb1⟩
  go_wp2_with fail
  refine (clone_any _ l _ (by omega) (own_src ho1)).mono ?_
  rintro e w2 ⟨v2, rfl, ho2, hg2, hb2⟩
  go_wp2_with fail
  refine (zzAppend_any v1 l name value ⟨#[13, 10]⟩ q _ (own_kept ho1 hg2 (by cases hv : v1.ownBlock <;> simp)) hb (by decide)).mono ?_
  rintro e w3 ⟨v3, rfl, ho3, hg3⟩
  obtain ⟨T, hTe⟩ : ∃ T, T = encAll (bl ⟨#[13, 10]⟩) q (bl name) (bl value) := ⟨_, rfl⟩
  rw [← hTe] at ho3
  have hT0 : 0 < T.length := by rw [hTe]; exact enc_pos _ _ _ _
  have hT1 : T.length ≤ 10000000 := by
    rw [hTe]
    have := enc_len (bl ⟨#[13, 10]⟩) (bl name) (bl value) q (by decide)
    rw [bl_length, bl_length] at this
    omega
  have HT : Hid (T = encAll (bl ⟨#[13, 10]⟩) q (bl name) (bl value)) := hTe
  clear hTe
  obtain ⟨g, cap, ao, cap2, rfl, rfl, hc1, hc2, HO, hO1, hO2, hbel, hgl⟩ := after_of hT0 ho1 hg1 hb1 ho2 hg2 hb2 ho3 hg3
  clear ho1 hg1 hb1 ho2 hg2 hb2 ho3 hg3 hsrc
  unfold maxLen at hc2
  have HO' : Hid (0 < l.length → ∃ h, ao = some ⟨h, 0, none⟩ ∧ ∀ j (hj : j < l.length), w3.cell? ⟨h, j, none⟩ = some (.int .u8 (l[j].toNat : Int))) := HO
  have HO1 : Hid (∀ j (hj : j < l.length), w3.cell? ⟨g, j, none⟩ = some (.int .u8 (l[j].toNat : Int))) := hO1
  have HO2 : Hid (∀ j (hj : j < T.length), w3.cell? ⟨g, l.length + j, none⟩ = some (.int .u8 (T[j].toNat : Int))) := hO2
  clear HO hO1 hO2
  go_wp2_with fail
  go_loopw [14] (fun i wr => ∃ k n : Nat, k ≤ l.length ∧ i = .int .i64 k ∧ wr = w3.drewN n) (fun i _ => l.length - (intOf i).toNat)
  case atStart => exact ⟨0, 0, Nat.zero_le _, rfl, rfl⟩
  case round =>
    obtain ⟨k, n, hk, rfl, rfl⟩ := hrel
    by_cases hlt : k < l.length
    · obtain ⟨h, rfl, hcl⟩ := HO'.out (by omega)
      have c1 := hcl k hlt
      have c2 := HO1.out k hlt
      clear hcl
      go_wp2_with fail
      go_quiet (fail)
      go_wp2_with fail
      go_roundw
      case rel => exact ⟨k + 1, _, by omega, by go_num, rfl⟩
      case measure => simp [intOf]; omega
    · have hkl : ¬ cap = l.length := by omega
      go_wp2_with fail
      refine (splitNL_any value _ (by omega)).mono ?_
      rintro e w5 ⟨v5, ps, rfl, hown5, hbel5, hps⟩
      have hpl : 0 < ps.length := by
        have := congrArg List.length hps
        rw [List.length_map] at this
        rw [this]
        exact List.length_pos_iff.2 (splitNL_ne _)
      obtain ⟨h5, cap5, rfl, hc5, hc5', hcell5⟩ := lines_of hown5 hpl
      have HC5 : Hid (∀ j (hj : j < ps.length), w5.cell? ⟨h5, j, none⟩ = some (.string ps[j])) := hcell5
      have HC : Hid (∀ j (hj : j < T.length), w5.cell? ⟨g, l.length + j, none⟩ = some (.int .u8 (T[j].toNat : Int))) := fun j hj => by
        rw [hbel5.cell (p := ⟨g, l.length + j, none⟩) hgl]
        exact HO2.out j hj
      have hb5 : Below w3.heap.size w3 w5 := ⟨hbel5.os, hbel5.tape, hbel5.output, hbel5.size, hbel5.block⟩
      have hbelF := hbel.trans (hb5.mono hbel.size)
      have HPS : Hid (ps.map bl = splitNL (bl value)) := hps
      have HB : Hid (Below _ _ w5) := hbelF
      unfold maxLen at hc5'
      clear hown5 hbel5 hps hcell5 hbel hb5 hbelF HO' HO1 HO2 hlt hk
      go_wp2_with fail
      go_loop [17, 18] (fun p k => ∃ (i pos : Nat), i ≤ ps.length ∧ pos ≤ T.length ∧ p = .int .i64 pos ∧ k = .int .i64 i ∧ Hid (T.drop pos = encFrom (bl ⟨#[13, 10]⟩) q (bl name) i ((splitNL (bl value)).drop i))) (fun _ k => ps.length - (intOf k).toNat)
      case atStart => exact ⟨0, 0, Nat.zero_le _, Nat.zero_le _, rfl, rfl, HT.out⟩
      case round =>
        obtain ⟨i, pos, hi, hpos, rfl, rfl, HD⟩ := hrel
        by_cases hil : i < ps.length
        · have hL : (splitNL (bl value)).length = ps.length := by rw [← HPS.out, List.length_map]
          have hLi : (splitNL (bl value))[i]'(by omega) = bl ps[i] := by simp [← HPS.out]
          have hst := encFrom_step HD.out (by omega : i < (splitNL (bl value)).length)
          rw [hLi] at hst
          have hn10 : (10 : UInt8) ∉ bl ps[i] := (mem_splitNL _ _ (by rw [← hLi]; exact List.getElem_mem _)).1
          have hP10 := no10 q i (hasB_false (c := 10) HN.out) hn10
          have hP0 := piece_ne (name := bl name) (line := bl ps[i]) q i
          obtain ⟨P, hP⟩ : ∃ P, P = pieceAt q (bl name) i (bl ps[i]) := ⟨_, rfl⟩
          rw [← hP] at hst hP10 hP0
          have hst' := cr_step hst
          obtain ⟨f1, f2, f3, f4, f5⟩ := round_facts hst' (cr_no10 hP10)
          rw [List.length_append] at f1 f2 f3 f4 f5
          obtain ⟨E, hE⟩ : ∃ E, E = pos + (P.length + [(13 : UInt8)].length) := ⟨_, rfl⟩
          rw [← hE] at f1 f2 f3 f5
          have hE' : E = pos + P.length + 1 := hE
          have hpE : pos < E := by omega
          have HF4 : Hid ((T.drop pos).take (E - pos) = pieceAt q (bl name) i (bl ps[i]) ++ [13]) := by
            show _ = _
            rw [show E - pos = P.length + [(13 : UInt8)].length by simp; omega, f4, hP]
          have hli : ps[i].size ≤ 1048576 := by
            have h6 := splitNL_len (bl value)
            rw [bl_length] at h6
            have h7 : (bl ps[i]).length ≤ ((splitNL (bl value)).map List.length).sum := le_sum (List.mem_map_of_mem (by rw [← hLi]; exact List.getElem_mem _))
            rw [bl_length] at h7
            omega
          have HF2 : Hid (∀ j, pos ≤ j → j < E → T[j]? ≠ some 10) := f2
          have HF3 : Hid (T[E]? = some 10) := f3
          have HF5 : Hid (T.drop (E + 1) = encFrom (bl ⟨#[13, 10]⟩) q (bl name) (i + 1) ((splitNL (bl value)).drop (i + 1))) := f5
          have hi1 : i < 10000000 := by
            have h6 := splitNL_len (bl value)
            rw [bl_length] at h6
            omega
          clear hst hst' hE' hn10 hP10 hP0 f2 f3 f4 f5 hP hL hLi hE
          go_wp2_with fail
          go_loop [19] (fun e => ∃ j : Nat, pos ≤ j ∧ j ≤ E ∧ e = .int .i64 j) (fun e => E - (intOf e).toNat)
          case atStart => exact ⟨pos, Nat.le_refl _, Nat.le_of_lt hpE, rfl⟩
          case round =>
            obtain ⟨j, hj1, hj2, rfl⟩ := hrel
            by_cases hjE : j < E
            · have hjT : j < T.length := by omega
              have hcj := HC.out j hjT
              have ht := t10n hjT (HF2.out j hj1 hjE)
              go_wp2_with fail
              go_round
              case rel => exact ⟨j + 1, by omega, by omega, by go_num⟩
              case measure => simp [intOf]; omega
            · have hje : j = E := by omega
              have HJ : Hid (j = E) := hje
              have hjT : j < T.length := by omega
              have hpj : pos < j := by omega
              have hcj := t10' hjT (by rw [hje]; exact HF3.out) (HC.out j hjT)
              obtain ⟨pc, hpc, hconv⟩ := conv_of (c := cap - l.length - pos) HC.out (Nat.le_of_lt hpj) (Nat.le_of_lt hjT)
              have hpc2 : bl pc = pieceAt q (bl name) i (bl ps[i]) ++ [13] := by rw [hpc, hje, HF4.out]
              obtain ⟨hp1, hp2, hp3, hp4⟩ := cr_piece hpc2
              have HPC : Hid (bl (pc.extract 0 (pc.size - 1)) = pieceAt q (bl name) i (bl ps[i])) := hp4
              have hsz : pc.size ≤ 16777216 := by
                rw [← bl_length, hpc, List.length_take]
                omega
              have hsz2 : (pc.extract 0 (pc.size - 1)).size ≤ 16777216 := by
                rw [← bl_length, bl_extract, List.length_take]
                omega
              have hcp : ¬ cap - l.length = pos := by omega
              clear hp4 hpc2 hje hpc hjE hj1 hj2 hpE f1
              have hc5i := HC5.out i hil
              go_wp2_with (go_at_call 29; refine (piece_any i hi1 (pc.extract 0 (pc.size - 1)) name ps[i] q _ hsz2 (by omega) hli HPC.out).mono ?_; rintro e w' ⟨rfl, rfl⟩)
              go_round
              case rel => exact ⟨i + 1, j + 1, by omega, by omega, by go_num, by go_num, by show _ = _; rw [HJ.out]; exact HF5.out⟩
              case measure => simp [intOf]; omega
        · have hie : i = ps.length := by omega
          have hpe : pos = T.length := end_pos HD.out (by rw [← HPS.out, List.length_map]; omega) hpos
          have HP : Hid (pos = T.length) := hpe
          clear hie hpe
          go_wp2_with fail
          go_ret
          exact ⟨ret_bool (by rw [HP.out]; simp), HB.out⟩
end Go.Proofs.Qxb6001690a
