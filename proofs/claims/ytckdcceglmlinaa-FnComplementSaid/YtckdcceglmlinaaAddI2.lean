/- The walk of addInterval on a set with a row: the rounds, arm by arm. Condition: the bound on the number of ranges. -/
import Derived.Test.YtckdcceglmlinaaAddI
import Derived.Handy
namespace Go.Proofs.Ytckdcceglmlinaa
open Go.RowKit
set_option linter.unusedSimpArgs false

theorem addI_pass {a b s e : Int} {t : List Rg} (h1 : ¬ b < s) (h2 : b ≠ s) (h3 : ¬ a ≤ e) : addI a b ((s, e) :: t) = (s, e) :: addI a b t := by
  simp [addI, h1, h2, h3]
theorem wrap_one (k : Nat) (h : k ≤ 200) : IntKind.i64.wrap ((k : Int) + 1) = ((k + 1 : Nat) : Int) := by
  rw [IntKind.wrap_i64]; omega
theorem wrap_two (k : Nat) (h : k ≤ 200) : IntKind.i64.wrap ((k : Int) + 2) = ((k + 2 : Nat) : Int) := by
  rw [IntKind.wrap_i64]; omega
theorem drop_cons {L : List Rg} {k : Nat} {r : Rg} (h : L[k]? = some r) : L.drop k = r :: L.drop (k + 1) := by
  have hlt : k < L.length := (List.getElem?_eq_some_iff.1 h).1
  rw [List.drop_eq_getElem_cons hlt]
  rw [List.getElem?_eq_getElem hlt] at h
  injection h with h
  rw [h]

set_option maxRecDepth 20000 in
set_option maxHeartbeats 16000000 in
theorem addInterval_row (base g rb c : Nat) (L : List Rg) (a b : Int) (w : World) (hblk : Blk w g 72 #[.slice (some ⟨rb, 0, none⟩) L.length c, .bool false]) (hown : w.ownsRow base 68 2 (.slice (some ⟨rb, 0, none⟩) L.length c) L.length (flat L))
    (hbg : base ≤ g) (hm : L.length ≤ 100) :
    Calls Try.prog 55 #[.pointer (some ⟨g, 0, none⟩), .agg #[.int .i64 a, .int .i64 b]] w (SetPost base g (some rb) (addI a b L) w) := by
  obtain ⟨i0, hi0, hz0, hz1, hz2⟩ := info_parts info68
  have c0 : w.cell? ⟨g, 0, none⟩ = some (.slice (some ⟨rb, 0, none⟩) L.length c) := hblk.cell 0
  have hgl := hblk.lt
  have hrb : rb ≠ g := fun e => own_blk_ne hown hblk (by decide) (by rw [e]; rfl)
  have hrl : rb < w.heap.size := (hown.lt rb rfl).2
  have hrbase : base ≤ rb := (hown.lt rb rfl).1
  have hcap : L.length ≤ c := by
    rcases hown.2 with ⟨h, _⟩ | ⟨_, _, _, h, _, _, h2, _⟩
    · cases h
    · cases h; exact h2
  have HK := Lib.hid hblk
  have HO0 := Lib.hid hown
  clear hblk hown
  have q1 := eqlNil70
  go_enter Try.func55, Try.ntmps55
  go_wp2_with fail
  go_loopw [32] (fun i wr => ∃ k : Nat, k ≤ L.length ∧ i = .int .i64 k ∧ Below w.heap.size w wr ∧ Hid (addI a b L = L.take k ++ addI a b (L.drop k)) ∧ w.heap.size < wr.heap.size ∧
    wr.cell? ⟨w.heap.size, 0, none⟩ = some (.int .i64 a) ∧ wr.cell? ⟨w.heap.size, 1, none⟩ = some (.int .i64 b)) (fun i _ => L.length - (intOf i).toNat)
  case atStart => exact ⟨0, Nat.zero_le _, rfl, (Below.refl _ _).alloc (Nat.le_refl _) _, Lib.hid rfl, by simp, by simp [World.cell?_alloc_new], by simp [World.cell?_alloc_new]⟩
  case round =>
    obtain ⟨k, hk, rfl, hb, HADD, hbs, v0, v1⟩ := hrel
    by_cases hlt : k < L.length
    · have hkr := List.getElem?_eq_getElem hlt
      generalize L[k] = r at *
      obtain ⟨b1, off, hA, _, ca, cb⟩ := ((Reads.of_own HO0.out).ext hb).rg hkr
      cases hA
      have HKR := Lib.hid hkr
      have HD := Lib.hid (drop_cons hkr)
      obtain ⟨p, q⟩ := r
      simp only [Nat.zero_add] at ca cb
      have hb0 := hb
      obtain ⟨W0, hW0⟩ : ∃ W0, W0 = wr.alloc (Obj.cells #[Value.int IntKind.i64 p, Value.int IntKind.i64 q] 68) := ⟨_, rfl⟩
      have hbW : Below w.heap.size w W0 := by rw [hW0]; exact below_alloc' hb _
      have t0 : W0.cell? ⟨wr.heap.size, 0, none⟩ = some (.int .i64 p) := by rw [hW0]; simp [World.cell?_alloc_new]
      have t1 : W0.cell? ⟨wr.heap.size, 1, none⟩ = some (.int .i64 q) := by rw [hW0]; simp [World.cell?_alloc_new]
      have y0 : W0.cell? ⟨w.heap.size, 0, none⟩ = some (.int .i64 a) := by rw [hW0]; exact cell_alloc v0 _
      have y1 : W0.cell? ⟨w.heap.size, 1, none⟩ = some (.int .i64 b) := by rw [hW0]; exact cell_alloc v1 _
      have hws : wr.heap.size < W0.heap.size := by rw [hW0]; simp
      have e0 := cell_bel c0 hbW
      have HBK := Lib.hid (HK.out.below hbW hgl)
      have f0 := HBK.out.frozen 0
      have HO := Lib.hid (ownsRow_ext HO0.out hbW)
      have HKP := Lib.hid (KeepS.of_below hbW g (some rb))
      have n1 : rb ≠ w.heap.size := by omega
      have n2 : rb ≠ wr.heap.size := by omega
      have HW0 := Lib.hid hW0
      clear hkr hb hbW hW0
      by_cases h1 : b < p
      · have hkc : k ≤ c := by omega
        have hck : ¬ c = k := by omega
        have HN := Lib.hid (show addI a b L = L.take k ++ (a, b) :: L.drop k by
          rw [HADD.out, HD.out, show addI a b ((p, q) :: L.drop (k + 1)) = (a, b) :: (p, q) :: L.drop (k + 1) by simp [addI, h1]])
        go_wp2_with fail
        rw [← HW0.out]
        clear HW0
        refine wp_region_order (fun w' => W0.grownBy w' (some rb)) [0, 1, 2, 3, 4, 5, 6, 7, 9, 10, 11, 12, 13, 14] [8, 15, 16, 17, 18, 19] (by kernel_rfl) (by kernel_rfl) (grown_of_bel (below_drew' (Below.refl _ _))) ?_
        repeat
          apply TakesThen.cons rfl rfl
          · intro w' hw'
            have x0 := hw'.cell e0 (by simp; omega)
            have x1 := hw'.cell y0 (by simp; omega)
            have x2 := hw'.cell y1 (by simp; omega)
            have x3 := hw'.cell t0 (by simp; omega)
            have x4 := hw'.cell t1 (by simp; omega)
            go_simp
            with_reducible rfl
          try simp only [Act.put, List.setIfInBounds_toArray, List.set_cons_zero, List.set_cons_succ]
        refine TakesThen.nil ?_
        refine Chain.step rfl rfl (fun K hK => ?_)
        go_simp
        have hX := below_alloc' (below_drew' (Below.refl _ W0)) (Obj.cells #[Value.int .i64 a, Value.int .i64 b] 68)
        refine hK _ _ (grown_of_bel hX) ?_
        clear hK
        refine Chain.step rfl rfl (fun K hK => ?_)
        refine wp_append_any _ (.tmp 50) (.tmp 56) 70 rfl base 68 i0 _ 2 16 Try.underlying70 hi0 hz0 hz1 hz2 rfl (by omega) (.slice (some ⟨W0.heap.size, 0, none⟩) 1 1) 1 (flat [(a, b)]) rfl
          (World.ownsRow_lit W0.drew #[Value.int .i64 a, Value.int .i64 b] 1 (Nat.le_trans (show base ≤ W0.heap.size by omega) (Nat.le_refl _)) (by simp [maxLen]) rfl) _ _ _ _ _ rfl
          (reads_drop (ownsRow_ext HO.out hX) hk) (flat_one _) (by simp only [maxLen]; omega) (by omega) (Nat.le_trans (by omega) hX.size) ?_
        intro v4 w4 hown4 hgr4 hat4
        obtain ⟨A4, c4, rfl, hr4⟩ := own_slice hown4
        have hX4 : Below W0.heap.size W0 w4 := hX.grown hgr4 hX.size (fun x hx => by simp [Value.ownBlock] at hx; omega)
        refine hK _ _ (grown_of_bel hX4) ?_
        clear hK hown4 hgr4 hat4 hX
        try simp only [Act.put, List.setIfInBounds_toArray, List.set_cons_zero, List.set_cons_succ]
        refine Chain.step rfl rfl (fun K hK => ?_)
        refine wp_append_any _ (.tmp 48) (.tmp 57) 70 rfl base 68 i0 _ 2 16 Try.underlying70 hi0 hz0 hz1 hz2 rfl (by omega) (.slice (some ⟨rb, 0, none⟩) k c) k _ rfl
          (ownsRow_ext (own_cut HO.out hk) hX4) _ _ _ _ _ rfl hr4 (by rw [← flat_append]; exact flat_one _) (by simp only [maxLen]; omega) (by omega) (Nat.le_trans (by omega) hX4.size) ?_
        intro v3 w3 hown3 hgr hat
        obtain ⟨A3, c3, rfl, _⟩ := own_slice hown3
        have hgr' := grown_grown (grown_of_bel hX4) hgr
        have HB3 := Lib.hid (HBK.out.grown hgr' (fun h => hrb (Option.some.inj h).symm))
        have HS := Lib.hid (setAt_store (L := L.take k ++ (a, b) :: L.drop k) HB3.out hbg (by rw [flat_append, show flat ((a, b) :: L.drop k) = flat [(a, b)] ++ flat (L.drop k) from rfl, flat_take]; exact hown3) (by simp; omega))
        rw [← HN.out] at HS
        have HK3 := Lib.hid ((HKP.out.grown hgr' (r2 := (Value.slice A3 (k + (1 + (L.length - k))) c3).ownBlock) (by
          rcases hat with h | h
          · exact .inl h
          · exact .inr ⟨_, h, hX4.size⟩)).set 0 (.slice A3 (k + (1 + (L.length - k))) c3))
        have x0 := HB3.out.cell 0
        have x1 := HB3.out.frozen 0
        refine hK _ _ hgr' ?_
        clear hK hown3 hat hgr hr4
        try simp only [Act.put, List.setIfInBounds_toArray, List.set_cons_zero, List.set_cons_succ]
        refine Chain.step rfl rfl (fun K hK => ?_)
        go_simp
        refine hK _ _ hgr' ?_
        clear hK
        try simp only [Act.put, List.setIfInBounds_toArray, List.set_cons_zero, List.set_cons_succ]
        refine Chain.step rfl rfl (fun K hK => ?_)
        go_simp
        refine hK _ _ hgr' ?_
        clear hK
        try simp only [Act.put, List.setIfInBounds_toArray, List.set_cons_zero, List.set_cons_succ]
        refine Chain.last (by kernel_rfl) rfl rfl (fun K hK => ?_)
        go_simp
        refine hK _ _ ?_
        clear hK
        refine NoPanic.normal ?_
        go_wp2_with fail
        go_returns
        exact ⟨_, rfl, HS.out, HK3.out⟩
      · by_cases h2 : b = p
        · have HN := Lib.hid (show addI a b L = L.set k (a, q) by
            rw [HADD.out, HD.out, show addI a b ((p, q) :: L.drop (k + 1)) = (a, q) :: L.drop (k + 1) by simp [addI, h1, h2], set_at HKR.out])
          subst h2
          have z0 := (ownsRow_ext HO.out (below_drew' (Below.refl _ W0))).stored (k * 2) (.int .i64 a)
          have z1 : W0.cell? ⟨rb, k * 2, none⟩ = some (.int .i64 b) := by rw [HO.out.cellAt _ (by omega)]; exact (flat_at HKR.out).1
          have z2 := HO.out.frozenAt (k * 2)
          rw [flat_set1 HKR.out, ← HN.out] at z0
          have HS := Lib.hid (setAt_row (HBK.out.drew.far (p := ⟨rb, k * 2, none⟩) (Ne.symm hrb) (.int .i64 a)) z0.1 (by rw [HN.out, List.length_set]) hbg)
          have HKE := Lib.hid (HKP.out.below (below_drew' (Below.refl _ _)) |>.grown z0.2 (.inl rfl))
          clear z0
          go_wp2_with fail
          rw [← HW0.out]
          clear HW0
          refine wp_region_order (fun w' => W0.grownBy w' (some rb)) [0, 1, 2, 3, 4, 5, 6] [7, 8, 9] (by kernel_rfl) (by kernel_rfl) (grown_of_bel (below_drew' (Below.refl _ _))) ?_
          repeat
            apply TakesThen.cons rfl rfl
            · intro w' hw'
              have x0 := hw'.cell e0 (by simp; omega)
              have x1 := hw'.cell y0 (by simp; omega)
              have x2 := hw'.cell y1 (by simp; omega)
              have x3 := hw'.cell t0 (by simp; omega)
              have x4 := hw'.cell t1 (by simp; omega)
              go_simp
              with_reducible rfl
            try simp only [Act.put, List.setIfInBounds_toArray, List.set_cons_zero, List.set_cons_succ]
          refine TakesThen.nil ?_
          refine Chain.step rfl rfl (fun K hK => ?_)
          go_simp
          refine hK _ _ (grown_of_bel (below_drew' (Below.refl _ _))) ?_
          clear hK
          try simp only [Act.put, List.setIfInBounds_toArray, List.set_cons_zero, List.set_cons_succ]
          refine Chain.step rfl rfl (fun K hK => ?_)
          go_simp
          refine hK _ _ (grown_of_bel (below_drew' (Below.refl _ _))) ?_
          clear hK
          try simp only [Act.put, List.setIfInBounds_toArray, List.set_cons_zero, List.set_cons_succ]
          refine Chain.last (by kernel_rfl) rfl rfl (fun K hK => ?_)
          go_simp
          refine hK _ _ ?_
          clear hK
          refine NoPanic.normal ?_
          go_wp2_with fail
          go_returns
          exact ⟨_, rfl, HS.out, HKE.out⟩
        · have h2' : (b == p) = false := by rw [beq_eq_false_iff_ne]; exact h2
          by_cases h3 : a ≤ q
          · have HN0 := Lib.hid (show addI a b L = L.take k ++ mergeHd (imin p a) (imax q b) (L.drop (k + 1)) by
              rw [HADD.out, HD.out, show addI a b ((p, q) :: L.drop (k + 1)) = mergeHd (imin p a) (imax q b) (L.drop (k + 1)) by simp [addI, h1, h2, h3]])
            go_wp2_with fail
            rw [← HW0.out]
            clear HW0
            refine wp_region_order (fun w' => W0.grownBy w' (some rb)) [0, 1, 2, 3, 4, 5, 6, 7, 8, 10, 11, 12, 13] [9, 14, 15, 16, 17] (by kernel_rfl) (by kernel_rfl) (grown_of_bel (below_drew' (Below.refl _ _))) ?_
            repeat
              apply TakesThen.cons rfl rfl
              · intro w' hw'
                have x0 := hw'.cell e0 (by simp; omega)
                have x1 := hw'.cell y0 (by simp; omega)
                have x2 := hw'.cell y1 (by simp; omega)
                have x3 := hw'.cell t0 (by simp; omega)
                have x4 := hw'.cell t1 (by simp; omega)
                go_simp
                with_reducible rfl
              try simp only [Act.put, List.setIfInBounds_toArray, List.set_cons_zero, List.set_cons_succ]
            refine TakesThen.nil ?_
            refine Chain.step rfl rfl (fun K hK => ?_)
            go_simp
            refine (intMin_any p a W0.drew).mono ?_
            rintro e w' ⟨rfl, rfl⟩
            refine hK _ _ (grown_of_bel (below_drew' (Below.refl _ _))) ?_
            clear hK
            try simp only [Act.put, List.setIfInBounds_toArray, List.set_cons_zero, List.set_cons_succ]
            refine Chain.step rfl rfl (fun K hK => ?_)
            go_simp
            refine (intMax_any q b W0.drew).mono ?_
            rintro e w' ⟨rfl, rfl⟩
            refine hK _ _ (grown_of_bel (below_drew' (Below.refl _ _))) ?_
            clear hK
            try simp only [Act.put, List.setIfInBounds_toArray, List.set_cons_zero, List.set_cons_succ]
            refine Chain.step rfl rfl (fun K hK => ?_)
            go_simp
            refine (NewInterval_any (imin p a) (imax q b) W0.drew).mono ?_
            rintro e w2 ⟨rfl, hb2⟩
            have hX2 : Below W0.heap.size W0 w2 := below_trans (below_drew' (Below.refl _ _)) hb2
            refine hK _ _ (grown_of_bel hX2) ?_
            clear hK hb2
            try simp only [Act.put, List.setIfInBounds_toArray, List.set_cons_zero, List.set_cons_succ]
            refine Chain.step rfl rfl (fun K hK => ?_)
            go_simp
            refine hK _ _ (grown_of_bel hX2) ?_
            clear hK
            try simp only [Act.put, List.setIfInBounds_toArray, List.set_cons_zero, List.set_cons_succ]
            have HO1x := Lib.hid (ownsRow_ext HO.out hX2)
            have z1 : w2.cell? ⟨rb, k * 2, none⟩ = (flat L)[k * 2]? := HO1x.out.cellAt _ (by omega)
            have z2 : w2.cell? ⟨rb, k * 2 + 1, none⟩ = (flat L)[k * 2 + 1]? := HO1x.out.cellAt _ (by omega)
            rw [(flat_at HKR.out).1] at z1
            rw [(flat_at HKR.out).2] at z2
            have z3 := HO1x.out.frozenAt (k * 2)
            have z4 := HO1x.out.frozenAt (k * 2 + 1)
            have s1 := HO1x.out.stored (k * 2) (.int .i64 (imin p a))
            have s2 := s1.1.stored (k * 2 + 1) (.int .i64 (imax q b))
            rw [flat_set HKR.out] at s2
            have HO1 := Lib.hid s2.1
            have HBK1 := Lib.hid (((HBK.out.below hX2 HBK.out.lt).far (p := ⟨rb, k * 2, none⟩) (Ne.symm hrb) (.int .i64 (imin p a))).far (p := ⟨rb, k * 2 + 1, none⟩) (Ne.symm hrb) (.int .i64 (imax q b)))
            have HKP1 := Lib.hid (((HKP.out.below hX2).grown s1.2 (.inl rfl)).grown s2.2 (.inl rfl))
            clear s1 s2
            clear hX2
            refine Chain.last (by kernel_rfl) rfl rfl (fun K hK => ?_)
            go_simp
            refine hK _ _ ?_
            clear hK
            refine NoPanic.normal ?_
            obtain ⟨W1, hW1⟩ : ∃ W1 : World, W1 = (w2.setCell ⟨rb, k * 2, none⟩ (.int .i64 (imin p a))).setCell ⟨rb, k * 2 + 1, none⟩ (.int .i64 (imax q b)) := ⟨_, rfl⟩
            rw [← hW1] at HO1 HBK1 HKP1 ⊢
            clear hW1 z1 z2 z3 z4 HO1x
            have hL1 : (L.set k (imin p a, imax q b))[k]? = some (imin p a, imax q b) := by simp [hlt]
            have g1 : W1.cell? ⟨rb, k * 2, none⟩ = some (.int .i64 (imin p a)) := by rw [HO1.out.cellAt _ (by omega)]; exact (flat_at hL1).1
            have g2 : W1.cell? ⟨rb, k * 2 + 1, none⟩ = some (.int .i64 (imax q b)) := by rw [HO1.out.cellAt _ (by omega)]; exact (flat_at hL1).2
            have e01 := HBK1.out.cell 0
            have hrb1 : rb < W1.heap.size := World.block_lt_of_cell? _ _ g1
            have hg1 : g < W1.heap.size := HBK1.out.lt
            have hbl1 : base ≤ W1.heap.size := Nat.le_trans hbg (Nat.le_of_lt HBK1.out.lt)
            clear hL1 e0 f0 t0 t1 y0 y1 hws v0 v1 ca cb
            by_cases hkn : k + 1 < L.length
            · have hk1 := List.getElem?_eq_getElem hkn
              generalize L[k + 1] = r2 at *
              have HDD := Lib.hid (drop_cons hk1)
              have hL2 : (L.set k (imin p a, imax q b))[k + 1]? = some r2 := by rw [List.getElem?_set_ne (by omega)]; exact hk1
              obtain ⟨s, e⟩ := r2
              have g3 : W1.cell? ⟨rb, (k + 1) * 2, none⟩ = some (.int .i64 s) := by rw [HO1.out.cellAt _ (by omega)]; exact (flat_at hL2).1
              have g4 : W1.cell? ⟨rb, (k + 1) * 2 + 1, none⟩ = some (.int .i64 e) := by rw [HO1.out.cellAt _ (by omega)]; exact (flat_at hL2).2
              clear hk1 hL2
              by_cases h5 : e ≤ imax q b
              · have HN := Lib.hid (show addI a b L = (L.set k (imin p a, imax q b)).take (k + 1) ++ (L.set k (imin p a, imax q b)).drop (k + 2) by
                  rw [HN0.out, HDD.out, set_take HKR.out, set_drop HKR.out]; simp [mergeHd, h5])
                go_wp2_with fail
                obtain ⟨W2, hW2⟩ : ∃ W2 : World, W2 = (W1.alloc (Obj.cells #[Value.int .i64 (imin p a), Value.int .i64 (imax q b)] 68)).alloc (Obj.cells #[Value.int .i64 s, Value.int .i64 e] 68) := ⟨_, rfl⟩
                have hb12 : Below W1.heap.size W1 W2 := by rw [hW2]; exact below_alloc2 (Below.refl _ _) (Nat.le_refl _) _ _
                rw [← hW2]
                clear hW2
                have HBK2 := Lib.hid (HBK1.out.below hb12 HBK1.out.lt)
                have HO2 := Lib.hid (ownsRow_ext HO1.out hb12)
                have HKP2 := Lib.hid (HKP1.out.below hb12)
                have e02 := HBK2.out.cell 0
                have f02 := HBK2.out.frozen 0
                have hbl2 : base ≤ W2.heap.size := Nat.le_trans hbl1 hb12.size
                clear e01 g1 g2 g3 g4 hb12
                have hR2 : Reads W2.drew W2.drew.heap.size 2 (if c = ((k : Int) + 2).toNat then some (⟨rb, 0, none⟩ : Addr) else some ⟨rb, ((k : Int) + 2).toNat * 2, none⟩) (L.length - ((k : Int) + 2).toNat) (flat ((L.set k (imin p a, imax q b)).drop (k + 2))) := by
                  rw [show ((k : Int) + 2).toNat = k + 2 by omega]
                  have hrd := reads_drop (ownsRow_ext HO2.out (below_drew' (Below.refl _ W2))) (show k + 2 ≤ L.length by omega)
                  by_cases h9 : c = k + 2
                  · have h10 : L.length - (k + 2) = 0 := by omega
                    have h11 := hrd.1
                    rw [h10] at h11 ⊢
                    exact ⟨h11, fun h => absurd h (by omega)⟩
                  · rw [if_neg h9]; exact hrd
                have hkc1 : k + 1 ≤ c := by omega
                have hw1 := wrap_one k (by omega)
                have hw2 := wrap_two k (by omega)
                have hkc6 : k + 2 ≤ L.length := by omega
                have hq1 : 0 ≤ (k : Int) + 1 := by omega
                have hq2 : (k : Int) + 1 ≤ (c : Int) := by omega
                have hq3 : 0 ≤ (k : Int) + 2 := by omega
                have hq4 : (k : Int) + 2 ≤ (L.length : Int) := by omega
                have hkc7 : k + 2 ≤ c := by omega
                have HR2 := Lib.hid hR2
                clear hR2
                refine wp_region_order (fun w' => W2.grownBy w' (some rb)) [0, 1, 2, 3, 4, 5, 6, 7, 8, 9, 10, 11, 12, 13, 14] [15, 16, 17, 18] (by kernel_rfl) (by kernel_rfl) (grown_of_bel (below_drew' (Below.refl _ _))) ?_
                repeat
                  apply TakesThen.cons rfl rfl
                  · intro w' hw'
                    have x0 := hw'.cell e02 (by simp; omega)
                    go_simp
                    with_reducible rfl
                  try simp only [Act.put, List.setIfInBounds_toArray, List.set_cons_zero, List.set_cons_succ]
                refine TakesThen.nil ?_
                simp only [Act.put, List.getElem_toArray, List.getElem_cons_succ, List.getElem_cons_zero, List.setIfInBounds_toArray, List.set_cons_zero, List.set_cons_succ]
                refine Chain.step rfl rfl (fun K hK => ?_)
                refine wp_append_any _ (.tmp 132) (.tmp 139) 70 rfl base 68 i0 _ 2 16 Try.underlying70 hi0 hz0 hz1 hz2 rfl (by omega) (.slice (some ⟨rb, 0, none⟩) (k + 1) c) (k + 1) _ rfl
                  (ownsRow_ext (own_cut HO2.out (show k + 1 ≤ L.length by omega)) (below_drew' (Below.refl _ _))) _ _ _ _ _ rfl HR2.out (flat_one _) (by simp only [maxLen]; omega) (by omega) (show base ≤ W2.heap.size by omega) ?_
                intro v3 w3 hown3 hgr hat
                rw [show ((k : Int) + 2).toNat = k + 2 by omega] at hown3
                obtain ⟨A3, c3, rfl, _⟩ := own_slice hown3
                have hgr' := grown_grown (grown_of_bel (below_drew' (Below.refl W2.heap.size W2))) hgr
                have HB3 := Lib.hid (HBK2.out.grown hgr' (fun h => hrb (Option.some.inj h).symm))
                have HS := Lib.hid (setAt_store (L := (L.set k (imin p a, imax q b)).take (k + 1) ++ (L.set k (imin p a, imax q b)).drop (k + 2)) HB3.out hbg (by rw [flat_append, flat_take]; exact hown3) (by simp; omega))
                rw [← HN.out] at HS
                have HK3 := Lib.hid ((HKP2.out.grown hgr' (r2 := (Value.slice A3 (k + 1 + (L.length - (k + 2))) c3).ownBlock) (by
                  rcases hat with h | h
                  · exact .inl h
                  · exact .inr ⟨_, h, Nat.le_refl _⟩)).set 0 (.slice A3 (k + 1 + (L.length - (k + 2))) c3))
                have x0 := HB3.out.cell 0
                have x1 := HB3.out.frozen 0
                refine hK _ _ hgr' ?_
                clear hK hown3 hat hgr
                try simp only [Act.put, List.setIfInBounds_toArray, List.set_cons_zero, List.set_cons_succ]
                refine Chain.step rfl rfl (fun K hK => ?_)
                go_simp
                refine hK _ _ hgr' ?_
                clear hK
                try simp only [Act.put, List.setIfInBounds_toArray, List.set_cons_zero, List.set_cons_succ]
                refine Chain.step rfl rfl (fun K hK => ?_)
                go_simp
                refine hK _ _ hgr' ?_
                clear hK
                try simp only [Act.put, List.setIfInBounds_toArray, List.set_cons_zero, List.set_cons_succ]
                refine Chain.last (by kernel_rfl) rfl rfl (fun K hK => ?_)
                go_simp
                refine hK _ _ ?_
                clear hK
                refine NoPanic.normal ?_
                go_wp2_with fail
                all_goals (go_returns; exact ⟨_, rfl, HS.out, HK3.out⟩)
              · by_cases h6 : s ≤ imax q b
                · have HN := Lib.hid (show addI a b L = ((L.set k (imin p a, imax q b)).set k (imin p a, e)).take (k + 1) ++ ((L.set k (imin p a, imax q b)).set k (imin p a, e)).drop (k + 2) by
                    rw [HN0.out, HDD.out, List.set_set, set_take HKR.out, set_drop HKR.out]; simp [mergeHd, h5, h6])
                  go_wp2_with fail
                  obtain ⟨W2, hW2⟩ : ∃ W2 : World, W2 = (W1.alloc (Obj.cells #[Value.int .i64 (imin p a), Value.int .i64 (imax q b)] 68)).alloc (Obj.cells #[Value.int .i64 s, Value.int .i64 e] 68) := ⟨_, rfl⟩
                  have hb12 : Below W1.heap.size W1 W2 := by rw [hW2]; exact below_alloc2 (Below.refl _ _) (Nat.le_refl _) _ _
                  have u0 : W2.cell? ⟨W1.heap.size, 0, none⟩ = some (.int .i64 (imin p a)) := by rw [hW2]; exact cell_alloc (by simp [World.cell?_alloc_new]) _
                  have u3 : W2.cell? ⟨W1.heap.size + 1, 1, none⟩ = some (.int .i64 e) := by rw [hW2]; exact (cell_of_row _ _ _ _ _ _ (heap_new' (by simp))).trans rfl
                  rw [← hW2]
                  clear hW2
                  have HBK2 := Lib.hid (HBK1.out.below hb12 HBK1.out.lt)
                  have HO2 := Lib.hid (ownsRow_ext HO1.out hb12)
                  have HKP2 := Lib.hid (HKP1.out.below hb12)
                  have e02 := HBK2.out.cell 0
                  have hbl2 : base ≤ W2.heap.size := Nat.le_trans hbl1 hb12.size
                  have hL5 : (L.set k (imin p a, imax q b))[k]? = some (imin p a, imax q b) := by simp [hlt]
                  have HL5 := Lib.hid hL5
                  clear e01 g1 g2 g3 g4 hb12 hL5
                  refine wp_region_order (fun w' => W2.grownBy w' (some rb)) [0, 1, 2, 3, 4, 5, 6, 7, 8] [9, 10, 11] (by kernel_rfl) (by kernel_rfl) (grown_of_bel (below_drew' (Below.refl _ _))) ?_
                  repeat
                    apply TakesThen.cons rfl rfl
                    · intro w' hw'
                      have x0 := hw'.cell e02 (by simp; omega)
                      have x1 := hw'.cell u0 (by simp; omega)
                      have x2 := hw'.cell u3 (by simp; omega)
                      go_simp
                      with_reducible rfl
                    try simp only [Act.put, List.setIfInBounds_toArray, List.set_cons_zero, List.set_cons_succ]
                  refine TakesThen.nil ?_
                  refine Chain.step rfl rfl (fun K hK => ?_)
                  go_simp
                  refine (NewInterval_any (imin p a) e W2.drew).mono ?_
                  rintro e' w5 ⟨rfl, hb5⟩
                  have hX5 : Below W2.heap.size W2 w5 := below_trans (below_drew' (Below.refl _ _)) hb5
                  refine hK _ _ (grown_of_bel hX5) ?_
                  clear hK hb5
                  try simp only [Act.put, List.setIfInBounds_toArray, List.set_cons_zero, List.set_cons_succ]
                  refine Chain.step rfl rfl (fun K hK => ?_)
                  go_simp
                  refine hK _ _ (grown_of_bel hX5) ?_
                  clear hK
                  try simp only [Act.put, List.setIfInBounds_toArray, List.set_cons_zero, List.set_cons_succ]
                  have HO3x := Lib.hid (ownsRow_ext HO2.out hX5)
                  have z1 : w5.cell? ⟨rb, k * 2, none⟩ = (flat (L.set k (imin p a, imax q b)))[k * 2]? := HO3x.out.cellAt _ (by omega)
                  have z2 : w5.cell? ⟨rb, k * 2 + 1, none⟩ = (flat (L.set k (imin p a, imax q b)))[k * 2 + 1]? := HO3x.out.cellAt _ (by omega)
                  rw [(flat_at HL5.out).1] at z1
                  rw [(flat_at HL5.out).2] at z2
                  have z3 := HO3x.out.frozenAt (k * 2)
                  have z4 := HO3x.out.frozenAt (k * 2 + 1)
                  have s1 := HO3x.out.stored (k * 2) (.int .i64 (imin p a))
                  have s2 := s1.1.stored (k * 2 + 1) (.int .i64 (e))
                  rw [flat_set HL5.out] at s2
                  have HO3 := Lib.hid s2.1
                  have HBK3 := Lib.hid (((HBK2.out.below hX5 HBK2.out.lt).far (p := ⟨rb, k * 2, none⟩) (Ne.symm hrb) (.int .i64 (imin p a))).far (p := ⟨rb, k * 2 + 1, none⟩) (Ne.symm hrb) (.int .i64 (e)))
                  have HKP3 := Lib.hid (((HKP2.out.below hX5).grown s1.2 (.inl rfl)).grown s2.2 (.inl rfl))
                  clear s1 s2
                  have hbl3 : base ≤ w5.heap.size := Nat.le_trans hbl2 hX5.size
                  clear hX5 e02 u0 u3
                  refine Chain.last (by kernel_rfl) rfl rfl (fun K hK => ?_)
                  go_simp
                  refine hK _ _ ?_
                  clear hK
                  refine NoPanic.normal ?_
                  have hbl4 : base ≤ ((w5.setCell ⟨rb, k * 2, none⟩ (.int .i64 (imin p a))).setCell ⟨rb, k * 2 + 1, none⟩ (.int .i64 e)).heap.size := by simp [World.setCell]; exact hbl3
                  obtain ⟨W3, hW3⟩ : ∃ W3 : World, W3 = (w5.setCell ⟨rb, k * 2, none⟩ (.int .i64 (imin p a))).setCell ⟨rb, k * 2 + 1, none⟩ (.int .i64 e) := ⟨_, rfl⟩
                  rw [← hW3] at HO3 HBK3 HKP3 hbl4 ⊢
                  clear hW3 z1 z2 z3 z4 HO3x
                  have e03 := HBK3.out.cell 0
                  go_wp2_with fail
                  have hR2 : Reads W3.drew W3.drew.heap.size 2 (if c = ((k : Int) + 2).toNat then some (⟨rb, 0, none⟩ : Addr) else some ⟨rb, ((k : Int) + 2).toNat * 2, none⟩) (L.length - ((k : Int) + 2).toNat) (flat (((L.set k (imin p a, imax q b)).set k (imin p a, e)).drop (k + 2))) := by
                    rw [show ((k : Int) + 2).toNat = k + 2 by omega]
                    have hrd := reads_drop (ownsRow_ext HO3.out (below_drew' (Below.refl _ W3))) (show k + 2 ≤ L.length by omega)
                    by_cases h9 : c = k + 2
                    · have h10 : L.length - (k + 2) = 0 := by omega
                      have h11 := hrd.1
                      rw [h10] at h11 ⊢
                      exact ⟨h11, fun h => absurd h (by omega)⟩
                    · rw [if_neg h9]; exact hrd
                  have hkc1 : k + 1 ≤ c := by omega
                  have hw1 := wrap_one k (by omega)
                  have hw2 := wrap_two k (by omega)
                  have hkc6 : k + 2 ≤ L.length := by omega
                  have hq1 : 0 ≤ (k : Int) + 1 := by omega
                  have hq2 : (k : Int) + 1 ≤ (c : Int) := by omega
                  have hq3 : 0 ≤ (k : Int) + 2 := by omega
                  have hq4 : (k : Int) + 2 ≤ (L.length : Int) := by omega
                  have hkc7 : k + 2 ≤ c := by omega
                  have HR2 := Lib.hid hR2
                  clear hR2
                  refine wp_region_order (fun w' => W3.grownBy w' (some rb)) [0, 1, 2, 3, 4, 5, 6, 7, 8, 9, 10, 11, 12, 13, 14] [15, 16, 17, 18] (by kernel_rfl) (by kernel_rfl) (grown_of_bel (below_drew' (Below.refl _ _))) ?_
                  repeat
                    apply TakesThen.cons rfl rfl
                    · intro w' hw'
                      have x0 := hw'.cell e03 (by simp; omega)
                      go_simp
                      with_reducible rfl
                    try simp only [Act.put, List.setIfInBounds_toArray, List.set_cons_zero, List.set_cons_succ]
                  refine TakesThen.nil ?_
                  simp only [Act.put, List.getElem_toArray, List.getElem_cons_succ, List.getElem_cons_zero, List.setIfInBounds_toArray, List.set_cons_zero, List.set_cons_succ]
                  refine Chain.step rfl rfl (fun K hK => ?_)
                  refine wp_append_any _ (.tmp 166) (.tmp 173) 70 rfl base 68 i0 _ 2 16 Try.underlying70 hi0 hz0 hz1 hz2 rfl (by omega) (.slice (some ⟨rb, 0, none⟩) (k + 1) c) (k + 1) _ rfl
                    (ownsRow_ext (own_cut HO3.out (show k + 1 ≤ L.length by omega)) (below_drew' (Below.refl _ _))) _ _ _ _ _ rfl HR2.out (flat_one _) (by simp only [maxLen]; omega) (by omega) (show base ≤ W3.heap.size by omega) ?_
                  intro v3 w3 hown3 hgr hat
                  rw [show ((k : Int) + 2).toNat = k + 2 by omega] at hown3
                  obtain ⟨A3, c3, rfl, _⟩ := own_slice hown3
                  have hgr' := grown_grown (grown_of_bel (below_drew' (Below.refl W3.heap.size W3))) hgr
                  have HB3 := Lib.hid (HBK3.out.grown hgr' (fun h => hrb (Option.some.inj h).symm))
                  have HS := Lib.hid (setAt_store (L := ((L.set k (imin p a, imax q b)).set k (imin p a, e)).take (k + 1) ++ ((L.set k (imin p a, imax q b)).set k (imin p a, e)).drop (k + 2)) HB3.out hbg (by rw [flat_append, flat_take]; exact hown3) (by simp; omega))
                  rw [← HN.out] at HS
                  have HK3 := Lib.hid ((HKP3.out.grown hgr' (r2 := (Value.slice A3 (k + 1 + (L.length - (k + 2))) c3).ownBlock) (by
                    rcases hat with h | h
                    · exact .inl h
                    · exact .inr ⟨_, h, Nat.le_refl _⟩)).set 0 (.slice A3 (k + 1 + (L.length - (k + 2))) c3))
                  have x0 := HB3.out.cell 0
                  have x1 := HB3.out.frozen 0
                  refine hK _ _ hgr' ?_
                  clear hK hown3 hat hgr
                  try simp only [Act.put, List.setIfInBounds_toArray, List.set_cons_zero, List.set_cons_succ]
                  refine Chain.step rfl rfl (fun K hK => ?_)
                  go_simp
                  refine hK _ _ hgr' ?_
                  clear hK
                  try simp only [Act.put, List.setIfInBounds_toArray, List.set_cons_zero, List.set_cons_succ]
                  refine Chain.step rfl rfl (fun K hK => ?_)
                  go_simp
                  refine hK _ _ hgr' ?_
                  clear hK
                  try simp only [Act.put, List.setIfInBounds_toArray, List.set_cons_zero, List.set_cons_succ]
                  refine Chain.last (by kernel_rfl) rfl rfl (fun K hK => ?_)
                  go_simp
                  refine hK _ _ ?_
                  clear hK
                  refine NoPanic.normal ?_
                  go_wp2_with fail
                  all_goals (go_returns; exact ⟨_, rfl, HS.out, HK3.out⟩)
                · have HN := Lib.hid (show addI a b L = L.set k (imin p a, imax q b) by
                    rw [HN0.out, HDD.out, set_at HKR.out, HDD.out]; simp [mergeHd, h5, h6])
                  go_wp2_with fail
                  go_returns
                  exact ⟨_, rfl, by rw [HN.out]; exact setAt_row (HBK1.out.below (below_alloc2 (Below.refl _ _) (Nat.le_refl _) _ _) HBK1.out.lt) (ownsRow_ext HO1.out (below_alloc2 (Below.refl _ _) (Nat.le_refl _) _ _)) (by simp) hbg, HKP1.out.below (below_alloc2 (Below.refl _ _) (Nat.le_refl _) _ _)⟩
            · have HN := Lib.hid (show addI a b L = L.set k (imin p a, imax q b) by
                rw [HN0.out, set_at HKR.out, List.drop_of_length_le (by omega)]; simp [mergeHd])
              have hkn' : ¬ ((k : Int) < (L.length : Int) - 1) := by omega
              go_wp2_with fail
              go_returns
              exact ⟨_, rfl, by rw [HN.out]; exact setAt_row HBK1.out HO1.out (by simp) hbg, HKP1.out⟩
          · have HN := Lib.hid (show addI a b L = L.take (k + 1) ++ addI a b (L.drop (k + 1)) by
              rw [HADD.out, HD.out, addI_pass h1 h2 h3, take_snoc' _ _ _ HKR.out]; simp)
            have HB0 := Lib.hid hb0
            clear hb0 HADD
            go_wp2_with fail
            rw [← HW0.out]
            have z1 := below_alloc' HB0.out (Obj.cells #[Value.int IntKind.i64 p, Value.int IntKind.i64 q] 68)
            rw [← HW0.out] at z1
            go_roundw
            case rel => exact ⟨k + 1, by omega, by go_num, z1, HN, by omega, y0, y1⟩
            case measure => simp [intOf]; omega
    · have hkn : k = L.length := by omega
      have HN := Lib.hid (show addI a b L = L ++ [(a, b)] by rw [HADD.out, hkn, List.take_length, List.drop_length]; rfl)
      clear hkn HADD
      go_wp2_with fail
      have hbW := hb
      obtain ⟨W0, hW0⟩ : ∃ W0 : World, W0 = wr := ⟨_, rfl⟩
      rw [← hW0] at hbW v0 v1 ⊢
      have hws : w.heap.size < W0.heap.size := by rw [hW0]; exact hbs
      clear hW0 hb
      have e0 := cell_bel c0 hbW
      have HBK := Lib.hid (HK.out.below hbW hgl)
      have HO := Lib.hid (ownsRow_ext HO0.out hbW)
      have HKP := Lib.hid (KeepS.of_below hbW g (some rb))
      have n1 : rb ≠ w.heap.size := by omega
      clear hbW
      refine wp_region_order (fun w' => W0.grownBy w' (some rb)) [0, 1, 2, 3, 4, 5] [6, 7, 8, 9, 10] (by kernel_rfl) (by kernel_rfl) (grown_of_bel (below_drew' (Below.refl _ _))) ?_
      repeat
        apply TakesThen.cons rfl rfl
        · intro w' hw'
          have x0 := hw'.cell e0 (by simp; omega)
          have x1 := hw'.cell v0 (by simp; omega)
          have x2 := hw'.cell v1 (by simp; omega)
          go_simp
          with_reducible rfl
        try simp only [Act.put, List.setIfInBounds_toArray, List.set_cons_zero, List.set_cons_succ]
      refine TakesThen.nil ?_
      refine Chain.step rfl rfl (fun K hK => ?_)
      go_simp
      have hX := below_alloc' (below_drew' (Below.refl _ W0)) (Obj.cells #[Value.int .i64 a, Value.int .i64 b] 68)
      refine hK _ _ (grown_of_bel hX) ?_
      clear hK
      refine Chain.step rfl rfl (fun K hK => ?_)
      refine wp_append_any _ (.tmp 182) (.tmp 184) 70 rfl base 68 i0 _ 2 16 Try.underlying70 hi0 hz0 hz1 hz2 rfl (by omega) (.slice (some ⟨rb, 0, none⟩) L.length c) L.length (flat L) rfl (ownsRow_ext HO.out hX) _ _ 1 1 _ rfl (reads_new (by simp) rfl) (by simp [Value.oneCell']) (by simp only [maxLen]; omega) (by omega) (Nat.le_trans (by omega) hX.size) ?_
      intro v3 w3 hown3 hgr hat
      obtain ⟨A3, c3, rfl, _⟩ := own_slice hown3
      have hgr' := grown_grown (grown_of_bel hX) hgr
      have HB3 := Lib.hid (HBK.out.grown hgr' (fun h => hrb (Option.some.inj h).symm))
      have HS := Lib.hid (setAt_store (L := L ++ [(a, b)]) HB3.out hbg (by rw [flat_append]; exact hown3) (by simp))
      rw [← HN.out] at HS
      have HK3 := Lib.hid ((HKP.out.grown hgr' (r2 := (Value.slice A3 (L.length + 1) c3).ownBlock) (by
        rcases hat with h | h
        · exact .inl h
        · exact .inr ⟨_, h, by simp⟩)).set 0 (.slice A3 (L.length + 1) c3))
      have x0 := HB3.out.cell 0
      have x1 := HB3.out.frozen 0
      refine hK _ _ hgr' ?_
      clear hK hown3 hat hgr
      try simp only [Act.put, List.setIfInBounds_toArray, List.set_cons_zero, List.set_cons_succ]
      refine Chain.step rfl rfl (fun K hK => ?_)
      go_simp
      refine hK _ _ hgr' ?_
      clear hK
      try simp only [Act.put, List.setIfInBounds_toArray, List.set_cons_zero, List.set_cons_succ]
      refine Chain.step rfl rfl (fun K hK => ?_)
      go_simp
      refine hK _ _ hgr' ?_
      clear hK
      try simp only [Act.put, List.setIfInBounds_toArray, List.set_cons_zero, List.set_cons_succ]
      refine Chain.last (by kernel_rfl) rfl rfl (fun K hK => ?_)
      go_simp
      refine hK _ _ ?_
      clear hK
      refine NoPanic.normal ?_
      go_wp2_with fail
      go_end0
      exact ⟨_, rfl, HS.out, HK3.out⟩
end Go.Proofs.Ytckdcceglmlinaa
