/- The walk of removeOne. Condition: the number is at an end of the range that it is in; the bound on the numbers. Printed by gen_rem1.py. -/
import Derived.Test.YtckdcceglmlinaaAddI3
import Derived.Test.YtckdcceglmlinaaNorm
namespace Go.Proofs.Ytckdcceglmlinaa
open Go.RowKit
set_option linter.unusedSimpArgs false

set_option maxRecDepth 20000 in
set_option maxHeartbeats 16000000 in
theorem removeOne_row (base g rb c : Nat) (L : List Rg) (v : Int) (w : World) (hblk : Blk w g 72 #[.slice (some ⟨rb, 0, none⟩) L.length c, .bool false]) (hown : w.ownsRow base 68 2 (.slice (some ⟨rb, 0, none⟩) L.length c) L.length (flat L))
    (hbg : base ≤ g) (hs : Sm L) (hns : NoSplit v L) :
    Calls Try.prog 51 #[.pointer (some ⟨g, 0, none⟩), .int .i64 v] w (SetPost base g (some rb) (rmOne v L) w) := by
  obtain ⟨i0, hi0, hz0, hz1, hz2⟩ := info_parts info68
  have hm := hs.1
  have c0 : w.cell? ⟨g, 0, none⟩ = some (.slice (some ⟨rb, 0, none⟩) L.length c) := hblk.cell 0
  have hgl := hblk.lt
  have hrb : rb ≠ g := fun e => own_blk_ne hown hblk (by decide) (by rw [e]; rfl)
  have hrl : rb < w.heap.size := (hown.lt rb rfl).2
  have hrbase : base ≤ rb := (hown.lt rb rfl).1
  have hcap : L.length ≤ c := by
    rcases hown.2 with ⟨h, _⟩ | ⟨_, _, _, h, _, _, h2, _⟩
    · cases h
    · cases h; exact h2
  have HK := Lib.hid hblk
  have HO0 := Lib.hid hown
  have HSM := Lib.hid hs
  have HNS := Lib.hid hns
  clear hblk hown hs hns
  have q1 := neqNil70
  go_enter Try.func51, Try.ntmps51
  go_wp2_with fail
  go_loopw [4] (fun i wr => ∃ k : Nat, k ≤ L.length ∧ i = .int .i64 k ∧ Below w.heap.size w wr ∧ Hid (rmOne v L = L.take k ++ rmOne v (L.drop k))) (fun i _ => L.length - (intOf i).toNat)
  case atStart => exact ⟨0, Nat.zero_le _, rfl, Below.refl _ _, Lib.hid rfl⟩
  case round =>
    obtain ⟨k, hk, rfl, hb, HADD⟩ := hrel
    have c0' := cell_bel c0 hb
    by_cases hlt : k < L.length
    · have hkr := List.getElem?_eq_getElem hlt
      generalize L[k] = r at *
      obtain ⟨b1, off, hA, _, ca, cb⟩ := ((Reads.of_own HO0.out).ext hb).rg hkr
      cases hA
      have HKR := Lib.hid hkr
      have HD := Lib.hid (drop_cons hkr)
      have hsm := HSM.out.2 r (List.mem_of_getElem? hkr)
      have hnsr := HNS.out r (List.mem_of_getElem? hkr)
      obtain ⟨p, q⟩ := r
      simp only [Nat.zero_add] at ca cb hsm hnsr
      have hb0 := hb
      obtain ⟨W0, hW0⟩ : ∃ W0, W0 = wr.alloc (Obj.cells #[Value.int IntKind.i64 p, Value.int IntKind.i64 q] 68) := ⟨_, rfl⟩
      have hbW : Below w.heap.size w W0 := by rw [hW0]; exact below_alloc' hb _
      have t0 : W0.cell? ⟨wr.heap.size, 0, none⟩ = some (.int .i64 p) := by rw [hW0]; simp [World.cell?_alloc_new]
      have t1 : W0.cell? ⟨wr.heap.size, 1, none⟩ = some (.int .i64 q) := by rw [hW0]; simp [World.cell?_alloc_new]
      have hws : wr.heap.size < W0.heap.size := by rw [hW0]; simp
      have hwr : w.heap.size ≤ wr.heap.size := hb.size
      have e0 := cell_bel c0 hbW
      have HBK := Lib.hid (HK.out.below hbW hgl)
      have f0 := HBK.out.frozen 0
      have HO := Lib.hid (ownsRow_ext HO0.out hbW)
      have HKP := Lib.hid (KeepS.of_below hbW g (some rb))
      have n2 : rb ≠ wr.heap.size := by omega
      have HW0 := Lib.hid hW0
      have HBW := Lib.hid hbW
      clear hkr hb hbW hW0 hb0
      by_cases h1 : v < p
      · have HN := Lib.hid (show rmOne v L = L by
          rw [HADD.out, HD.out, show rmOne v ((p, q) :: L.drop (k + 1)) = (p, q) :: L.drop (k + 1) by simp [rmOne, h1], ← HD.out, List.take_append_drop])
        go_wp2_with fail
        rw [← HW0.out]
        go_returns
        exact ⟨_, rfl, by rw [HN.out]; exact setAt_row HBK.out HO.out rfl hbg, HKP.out⟩
      · by_cases h2 : v = p
        · by_cases h3 : v = q - 1
          · have HN := Lib.hid (show rmOne v L = L.take k ++ L.drop (k + 1) by
              rw [HADD.out, HD.out, show rmOne v ((p, q) :: L.drop (k + 1)) = L.drop (k + 1) by simp [rmOne, h1, ← h2, ← h3]])
            obtain rfl : p = v := h2.symm
            obtain rfl : q = p + 1 := by omega
            clear h2 h3
            go_wp2_with fail
            rw [← HW0.out]
            clear HW0
            have hR2 : Reads W0.drew W0.drew.heap.size 2 (if c = ((k : Int) + 1).toNat then some (⟨rb, 0, none⟩ : Addr) else some ⟨rb, ((k : Int) + 1).toNat * 2, none⟩) (L.length - ((k : Int) + 1).toNat) (flat (L.drop (k + 1))) := by
              rw [show ((k : Int) + 1).toNat = k + 1 by omega]
              have hrd := reads_drop (ownsRow_ext HO.out (below_drew' (Below.refl _ W0))) (show k + 1 ≤ L.length by omega)
              by_cases h9 : c = k + 1
              · have h10 : L.length - (k + 1) = 0 := by omega
                have h11 := hrd.1
                rw [h10] at h11 ⊢
                exact ⟨h11, fun h => absurd h (by omega)⟩
              · rw [if_neg h9]; exact hrd
            have hkc1 : k ≤ c := by omega
            have hw1 := wrap_one k (by omega)
            have hkc6 : k + 1 ≤ L.length := by omega
            have hq1 : 0 ≤ (k : Int) + 1 := by omega
            have hq2 : (k : Int) + 1 ≤ (c : Int) := by omega
            have hq4 : (k : Int) + 1 ≤ (L.length : Int) := by omega
            have HR2 := Lib.hid hR2
            clear hR2
            refine wp_region_order (fun w' => W0.grownBy w' (some rb)) [0, 1, 2, 3, 4, 5, 6, 7, 8, 9, 10, 11, 12, 13] [14, 15, 16, 17] (by kernel_rfl) (by kernel_rfl) (grown_of_bel (below_drew' (Below.refl _ _))) ?_
            repeat
              apply TakesThen.cons rfl rfl
              · intro w' hw'
                have x0 := hw'.cell e0 (by simp; omega)
                go_simp
                with_reducible rfl
              try simp only [Act.put, List.setIfInBounds_toArray, List.set_cons_zero, List.set_cons_succ]
            refine TakesThen.nil ?_
            simp only [Act.put, List.getElem_toArray, List.getElem_cons_succ, List.getElem_cons_zero, List.setIfInBounds_toArray, List.set_cons_zero, List.set_cons_succ]
            refine Chain.step rfl rfl (fun K hK => ?_)
            refine wp_append_any _ (.tmp 49) (.tmp 56) 70 rfl base 68 i0 _ 2 16 Try.underlying70 hi0 hz0 hz1 hz2 rfl (by omega) (.slice (some ⟨rb, 0, none⟩) k c) k _ rfl
              (ownsRow_ext (own_cut HO.out (show k ≤ L.length by omega)) (below_drew' (Below.refl _ _))) _ _ _ _ _ rfl HR2.out (flat_one _) (by simp only [maxLen]; omega) (by omega) (show base ≤ W0.heap.size by omega) ?_
            intro v3 w3 hown3 hgr hat
            try rw [show ((k : Int) + 1).toNat = k + 1 by omega] at hown3
            obtain ⟨A3, c3, rfl, _⟩ := own_slice hown3
            have hgr' := grown_grown (grown_of_bel (below_drew' (Below.refl W0.heap.size W0))) hgr
            have HB3 := Lib.hid (HBK.out.grown hgr' (fun h => hrb (Option.some.inj h).symm))
            have HS := Lib.hid (setAt_store (L := L.take k ++ L.drop (k + 1)) HB3.out hbg (by rw [flat_append, flat_take]; exact hown3) (by simp; omega))
            rw [← HN.out] at HS
            have HK3 := Lib.hid ((HKP.out.grown hgr' (r2 := (Value.slice A3 (k + (L.length - (k + 1))) c3).ownBlock) (by
              rcases hat with h | h
              · exact .inl h
              · exact .inr ⟨_, h, Nat.le_refl _⟩)).set 0 (.slice A3 (k + (L.length - (k + 1))) c3))
            have x0 := HB3.out.cell 0
            have x1 := HB3.out.frozen 0
            refine hK _ _ hgr' ?_
            clear hK hown3 hat hgr
            try simp only [Act.put, List.setIfInBounds_toArray, List.set_cons_zero, List.set_cons_succ]
            refine Chain.step rfl rfl (fun K hK => ?_)
            go_simp
            refine hK _ _ hgr' ?_
            clear hK
            try simp only [Act.put, List.setIfInBounds_toArray, List.set_cons_zero, List.set_cons_succ]
            refine Chain.step rfl rfl (fun K hK => ?_)
            go_simp
            refine hK _ _ hgr' ?_
            clear hK
            try simp only [Act.put, List.setIfInBounds_toArray, List.set_cons_zero, List.set_cons_succ]
            refine Chain.last (by kernel_rfl) rfl rfl (fun K hK => ?_)
            go_simp
            refine hK _ _ ?_
            clear hK
            refine NoPanic.normal ?_
            go_wp2_with fail
            all_goals (go_returns; exact ⟨_, rfl, HS.out, HK3.out⟩)
          · obtain rfl : p = v := h2.symm
            clear h2
            have HN := Lib.hid (show rmOne p L = L.set k (p + 1, q) by
              rw [HADD.out, HD.out, show rmOne p ((p, q) :: L.drop (k + 1)) = (p + 1, q) :: L.drop (k + 1) by simp [rmOne, h3], set_at HKR.out])
            have h3' : (p == q - 1) = false := by rw [beq_eq_false_iff_ne]; exact h3
            have hwr : IntKind.i64.wrap (p + 1) = p + 1 := by rw [IntKind.wrap_i64]; omega
            clear h3
            go_wp2_with fail
            rw [← HW0.out]
            clear HW0
            refine wp_region_order (fun w' => W0.grownBy w' (some rb)) [0, 1, 2, 3, 4, 5, 6, 7, 8, 9] [10, 11, 12] (by kernel_rfl) (by kernel_rfl) (grown_of_bel (below_drew' (Below.refl _ _))) ?_
            repeat
              apply TakesThen.cons rfl rfl
              · intro w' hw'
                have x0 := hw'.cell e0 (by simp; omega)
                have x1 := hw'.cell t0 (by simp; omega)
                have x2 := hw'.cell t1 (by simp; omega)
                go_simp
                with_reducible rfl
              try simp only [Act.put, List.setIfInBounds_toArray, List.set_cons_zero, List.set_cons_succ]
            refine TakesThen.nil ?_
            refine Chain.step rfl rfl (fun K hK => ?_)
            go_simp
            refine (NewInterval_any (p + 1) (q) W0.drew).mono ?_
            rintro e' w2 ⟨rfl, hb2⟩
            have hX2 : Below W0.heap.size W0 w2 := below_trans (below_drew' (Below.refl _ _)) hb2
            refine hK _ _ (grown_of_bel hX2) ?_
            clear hK hb2
            try simp only [Act.put, List.setIfInBounds_toArray, List.set_cons_zero, List.set_cons_succ]
            refine Chain.step rfl rfl (fun K hK => ?_)
            go_simp
            refine hK _ _ (grown_of_bel hX2) ?_
            clear hK
            try simp only [Act.put, List.setIfInBounds_toArray, List.set_cons_zero, List.set_cons_succ]
            have HO1x := Lib.hid (ownsRow_ext HO.out hX2)
            have z1 : w2.cell? ⟨rb, k * 2, none⟩ = (flat L)[k * 2]? := HO1x.out.cellAt _ (by omega)
            have z2 : w2.cell? ⟨rb, k * 2 + 1, none⟩ = (flat L)[k * 2 + 1]? := HO1x.out.cellAt _ (by omega)
            rw [(flat_at HKR.out).1] at z1
            rw [(flat_at HKR.out).2] at z2
            have z3 := HO1x.out.frozenAt (k * 2)
            have z4 := HO1x.out.frozenAt (k * 2 + 1)
            have s1 := HO1x.out.stored (k * 2) (.int .i64 (p + 1))
            have s2 := s1.1.stored (k * 2 + 1) (.int .i64 (q))
            rw [flat_set HKR.out] at s2
            have HO1 := Lib.hid s2.1
            have HBK1 := Lib.hid (((HBK.out.below hX2 HBK.out.lt).far (p := ⟨rb, k * 2, none⟩) (Ne.symm hrb) (.int .i64 (p + 1))).far (p := ⟨rb, k * 2 + 1, none⟩) (Ne.symm hrb) (.int .i64 (q)))
            have HKP1 := Lib.hid (((HKP.out.below hX2).grown s1.2 (.inl rfl)).grown s2.2 (.inl rfl))
            clear s1 s2
            clear hX2
            refine Chain.last (by kernel_rfl) rfl rfl (fun K hK => ?_)
            go_simp
            refine hK _ _ ?_
            clear hK
            refine NoPanic.normal ?_
            go_wp2_with fail
            go_returns
            exact ⟨_, rfl, by rw [HN.out]; exact setAt_row HBK1.out HO1.out (by simp) hbg, HKP1.out⟩
        · have h2' : (v == p) = false := by rw [beq_eq_false_iff_ne]; exact h2
          by_cases h3 : v = q - 1
          · have HN := Lib.hid (show rmOne v L = L.set k (p, q - 1) by
              rw [HADD.out, HD.out, show rmOne v ((p, q) :: L.drop (k + 1)) = (p, q - 1) :: L.drop (k + 1) by simp [rmOne, h1, h2, ← h3], set_at HKR.out])
            have h3' : (v == q - 1) = true := by rw [beq_iff_eq]; exact h3
            have hwr : IntKind.i64.wrap (q - 1) = q - 1 := by rw [IntKind.wrap_i64]; omega
            clear h3
            go_wp2_with fail
            rw [← HW0.out]
            clear HW0
            refine wp_region_order (fun w' => W0.grownBy w' (some rb)) [0, 1, 2, 3, 4, 5, 6, 7, 8, 9] [10, 11, 12] (by kernel_rfl) (by kernel_rfl) (grown_of_bel (below_drew' (Below.refl _ _))) ?_
            repeat
              apply TakesThen.cons rfl rfl
              · intro w' hw'
                have x0 := hw'.cell e0 (by simp; omega)
                have x1 := hw'.cell t0 (by simp; omega)
                have x2 := hw'.cell t1 (by simp; omega)
                go_simp
                with_reducible rfl
              try simp only [Act.put, List.setIfInBounds_toArray, List.set_cons_zero, List.set_cons_succ]
            refine TakesThen.nil ?_
            refine Chain.step rfl rfl (fun K hK => ?_)
            go_simp
            refine (NewInterval_any (p) (q - 1) W0.drew).mono ?_
            rintro e' w2 ⟨rfl, hb2⟩
            have hX2 : Below W0.heap.size W0 w2 := below_trans (below_drew' (Below.refl _ _)) hb2
            refine hK _ _ (grown_of_bel hX2) ?_
            clear hK hb2
            try simp only [Act.put, List.setIfInBounds_toArray, List.set_cons_zero, List.set_cons_succ]
            refine Chain.step rfl rfl (fun K hK => ?_)
            go_simp
            refine hK _ _ (grown_of_bel hX2) ?_
            clear hK
            try simp only [Act.put, List.setIfInBounds_toArray, List.set_cons_zero, List.set_cons_succ]
            have HO1x := Lib.hid (ownsRow_ext HO.out hX2)
            have z1 : w2.cell? ⟨rb, k * 2, none⟩ = (flat L)[k * 2]? := HO1x.out.cellAt _ (by omega)
            have z2 : w2.cell? ⟨rb, k * 2 + 1, none⟩ = (flat L)[k * 2 + 1]? := HO1x.out.cellAt _ (by omega)
            rw [(flat_at HKR.out).1] at z1
            rw [(flat_at HKR.out).2] at z2
            have z3 := HO1x.out.frozenAt (k * 2)
            have z4 := HO1x.out.frozenAt (k * 2 + 1)
            have s1 := HO1x.out.stored (k * 2) (.int .i64 (p))
            have s2 := s1.1.stored (k * 2 + 1) (.int .i64 (q - 1))
            rw [flat_set HKR.out] at s2
            have HO1 := Lib.hid s2.1
            have HBK1 := Lib.hid (((HBK.out.below hX2 HBK.out.lt).far (p := ⟨rb, k * 2, none⟩) (Ne.symm hrb) (.int .i64 (p))).far (p := ⟨rb, k * 2 + 1, none⟩) (Ne.symm hrb) (.int .i64 (q - 1)))
            have HKP1 := Lib.hid (((HKP.out.below hX2).grown s1.2 (.inl rfl)).grown s2.2 (.inl rfl))
            clear s1 s2
            clear hX2
            refine Chain.last (by kernel_rfl) rfl rfl (fun K hK => ?_)
            go_simp
            refine hK _ _ ?_
            clear hK
            refine NoPanic.normal ?_
            go_wp2_with fail
            go_returns
            exact ⟨_, rfl, by rw [HN.out]; exact setAt_row HBK1.out HO1.out (by simp) hbg, HKP1.out⟩
          · have h3' : (v == q - 1) = false := by rw [beq_eq_false_iff_ne]; exact h3
            have h4 : ¬ (v < q - 1) := by omega
            have HN := Lib.hid (show rmOne v L = L.take (k + 1) ++ rmOne v (L.drop (k + 1)) by
              rw [HADD.out, HD.out, show rmOne v ((p, q) :: L.drop (k + 1)) = (p, q) :: rmOne v (L.drop (k + 1)) by simp [rmOne, h1, h2, h3], take_snoc' _ _ _ HKR.out]; simp)
            go_wp2_with fail
            rw [← HW0.out]
            go_roundw
            case rel => exact ⟨k + 1, by omega, by go_num, HBW.out, HN⟩
            case measure => simp [intOf]; omega
    · have hkn : k = L.length := by omega
      have HN := Lib.hid (show rmOne v L = L by rw [HADD.out, hkn, List.take_length, List.drop_length]; simp [rmOne])
      have HBW := Lib.hid hb
      clear hkn HADD
      go_wp2_with fail
      go_end0
      exact ⟨_, rfl, by rw [HN.out]; exact setAt_row (HK.out.below HBW.out hgl) (ownsRow_ext HO0.out HBW.out) rfl hbg, KeepS.of_below HBW.out g (some rb)⟩
end Go.Proofs.Ytckdcceglmlinaa
