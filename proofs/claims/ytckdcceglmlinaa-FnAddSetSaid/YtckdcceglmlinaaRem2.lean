/- The walk of removeRange. Condition: the range that is met is taken whole from some place on; the bound on the numbers. Printed by gen_rem2.py. -/
import Derived.Test.YtckdcceglmlinaaRem1
namespace Go.Proofs.Ytckdcceglmlinaa
open Go.RowKit
set_option linter.unusedSimpArgs false

theorem rmRange_id {a b : Int} {M : List Rg} {k : Nat} (h : ∀ r, M[k]? = some r → b ≤ r.1) : M.take k ++ rmRange a b (M.drop k) = M := by
  have e : rmRange a b (M.drop k) = M.drop k := by
    cases hd : M.drop k with
    | nil => rfl
    | cons r t =>
      have h1 : M[k]? = some r := by rw [← List.head?_drop, hd]; rfl
      have h2 := h r h1
      obtain ⟨s, e⟩ := r
      simp only at h2
      simp [rmRange, h2]
  rw [e, List.take_append_drop]
theorem own_some {w : World} {base x n size : Nat} {e : TypeId} {v : Value} {xs : List Value} (h : w.ownsRow base e size v n xs) (hx : v.ownBlock = some x) : ∃ c, v = .slice (some ⟨x, 0, none⟩) n c := by
  rcases h.2 with ⟨rfl, _⟩ | ⟨g, cap, cur, rfl, _⟩
  · simp [Value.ownBlock] at hx
  · have : g = x := by simpa [Value.ownBlock] using hx
    subst this
    exact ⟨_, rfl⟩
theorem SetAt.open_ {w : World} {base g rb : Nat} {L : List Rg} (h : SetAt w base g (some rb) L) : ∃ c, Blk w g 72 #[.slice (some ⟨rb, 0, none⟩) L.length c, .bool false] ∧ w.ownsRow base 68 2 (.slice (some ⟨rb, 0, none⟩) L.length c) L.length (flat L) := by
  obtain ⟨A, c, h1, h2, h3, _⟩ := h
  obtain ⟨c', hv⟩ := own_some h2 h3
  cases hv
  exact ⟨_, h1, h2⟩
theorem wrap_down (k : Nat) (h : k ≤ 200) : IntKind.i64.wrap (IntKind.i64.wrap ((k : Int) - 1) + 1) = (k : Int) := by
  rw [IntKind.wrap_i64, IntKind.wrap_i64]; omega
/-- what stands behind a range that is met -/
def Far (a b : Int) (L : List Rg) : Prop := ∀ (k : Nat) (p q : Int) (r : Rg), L[k]? = some (p, q) → p < b → a < q → L[k + 1]? = some r → b ≤ r.1
/-- k, n: the loop's counters over M, which has become of L -/
def Phase (b : Int) (L M : List Rg) (k n : Nat) : Prop := (M = L ∧ k = n) ∨ (n ≤ k + 1 ∧ ∀ r, M[k]? = some r → b ≤ r.1)

set_option maxRecDepth 20000 in
set_option maxHeartbeats 16000000 in
theorem removeRange_row (base g rb0 c0 : Nat) (L : List Rg) (a b : Int) (w : World) (hblk : Blk w g 72 #[.slice (some ⟨rb0, 0, none⟩) L.length c0, .bool false]) (hown : w.ownsRow base 68 2 (.slice (some ⟨rb0, 0, none⟩) L.length c0) L.length (flat L))
    (hbg : base ≤ g) (hs : Sm L) (hab : 0 ≤ a ∧ a + 1 < b ∧ b ≤ 100) (hw : Whole a b L) (hf : Far a b L) (hlr : ∀ r ∈ L, r.1 < r.2) :
    Calls Try.prog 52 #[.pointer (some ⟨g, 0, none⟩), .agg #[.int .i64 a, .int .i64 b]] w (SetPost base g (some rb0) (rmRange a b L) w) := by
  obtain ⟨i0, hi0, hz0, hz1, hz2⟩ := info_parts info68
  have hm := hs.1
  have c0c : w.cell? ⟨g, 0, none⟩ = some (.slice (some ⟨rb0, 0, none⟩) L.length c0) := hblk.cell 0
  have hgl := hblk.lt
  have hrl : rb0 < w.heap.size := (hown.lt rb0 rfl).2
  have HK := Lib.hid hblk
  have HO0 := Lib.hid hown
  have HSM := Lib.hid hs
  have HWH := Lib.hid hw
  have HFA := Lib.hid hf
  have HLR := Lib.hid hlr
  obtain ⟨ha0, hab, hb0⟩ := hab
  clear hblk hown hs hw hf hlr
  have q1 := neqNil70
  have hne : (a == b - 1) = false := by rw [beq_eq_false_iff_ne]; omega
  go_enter Try.func52, Try.ntmps52
  go_wp2_with fail
  go_loopw [4, 5] (fun i j wr => ∃ (k n rb : Nat) (M : List Rg), i = .int .i64 k ∧ j = .int .i64 n ∧ n ≤ 150 ∧ k ≤ n ∧ M.length ≤ 100 ∧ Hid (SetAt wr base g (some rb) M) ∧
    Hid (KeepS w wr g (some rb0) (some rb)) ∧ Hid (rmRange a b L = M.take k ++ rmRange a b (M.drop k)) ∧ Hid (Phase b L M k n) ∧
    w.heap.size < wr.heap.size ∧ rb ≠ w.heap.size ∧ wr.cell? ⟨w.heap.size, 0, none⟩ = some (.int .i64 a) ∧ wr.cell? ⟨w.heap.size, 1, none⟩ = some (.int .i64 b)) (fun _ j _ => 200 - (intOf j).toNat)
  case atStart =>
    have hB := (Below.refl w.heap.size w).alloc (Nat.le_refl _) (Obj.cells #[Value.int IntKind.i64 a, Value.int IntKind.i64 b] 68)
    exact ⟨0, 0, rb0, L, rfl, rfl, by omega, by omega, hm, Lib.hid (setAt_row (HK.out.below hB hgl) (ownsRow_ext HO0.out hB) rfl hbg), Lib.hid (KeepS.of_below hB g (some rb0)), Lib.hid rfl, Lib.hid (.inl ⟨rfl, rfl⟩), by simp, by omega, by simp [World.cell?_alloc_new], by simp [World.cell?_alloc_new]⟩
  case round =>
    obtain ⟨k, n, rb, M, rfl, rfl, hn150, hkn, hMl, HSr, HKPr, HRM, HPH, hsz, hrw, v0, v1⟩ := hrel
    obtain ⟨c, hbr, hor⟩ := SetAt.open_ HSr.out
    have HBKr := Lib.hid hbr
    have HOr := Lib.hid hor
    clear hbr hor
    have e0r : wr.cell? ⟨g, 0, none⟩ = some (.slice (some ⟨rb, 0, none⟩) M.length c) := HBKr.out.cell 0
    have hgr : g < wr.heap.size := HBKr.out.lt
    have hrb : rb ≠ g := fun e => own_blk_ne HOr.out HBKr.out (by decide) (by rw [e]; rfl)
    have hrl : rb < wr.heap.size := (HOr.out.lt rb rfl).2
    have hrbase : base ≤ rb := (HOr.out.lt rb rfl).1
    have hcap : M.length ≤ c := by
      rcases HOr.out.2 with ⟨h, _⟩ | ⟨_, _, _, h, _, _, h2, _⟩
      · cases h
      · cases h; exact h2
    by_cases hltn : n < M.length
    · have hlt : k < M.length := by omega
      have hkr := List.getElem?_eq_getElem hlt
      generalize M[k] = r at *
      obtain ⟨b1, off, hA, _, ca, cb⟩ := (Reads.of_own HOr.out).rg hkr
      cases hA
      have HKR := Lib.hid hkr
      have HD := Lib.hid (drop_cons hkr)
      obtain ⟨p, q⟩ := r
      simp only [Nat.zero_add] at ca cb
      obtain ⟨W0, hW0⟩ : ∃ W0, W0 = wr.alloc (Obj.cells #[Value.int IntKind.i64 p, Value.int IntKind.i64 q] 68) := ⟨_, rfl⟩
      have hbW : Below wr.heap.size wr W0 := by rw [hW0]; exact below_alloc' (Below.refl _ _) _
      have t0 : W0.cell? ⟨wr.heap.size, 0, none⟩ = some (.int .i64 p) := by rw [hW0]; simp [World.cell?_alloc_new]
      have t1 : W0.cell? ⟨wr.heap.size, 1, none⟩ = some (.int .i64 q) := by rw [hW0]; simp [World.cell?_alloc_new]
      have y0 : W0.cell? ⟨w.heap.size, 0, none⟩ = some (.int .i64 a) := by rw [hW0]; exact cell_alloc v0 _
      have y1 : W0.cell? ⟨w.heap.size, 1, none⟩ = some (.int .i64 b) := by rw [hW0]; exact cell_alloc v1 _
      have hws : wr.heap.size < W0.heap.size := by rw [hW0]; simp
      have e0 := cell_bel e0r hbW
      have HBK := Lib.hid (HBKr.out.below hbW hgr)
      have f0 := HBK.out.frozen 0
      have HO := Lib.hid (ownsRow_ext HOr.out hbW)
      have HKP := Lib.hid (HKPr.out.below hbW)
      have n2 : rb ≠ wr.heap.size := by omega
      have HW0 := Lib.hid hW0
      clear hkr hbW hW0
      by_cases h1 : b ≤ p
      · have HN := Lib.hid (show rmRange a b L = M by
          rw [HRM.out]; exact rmRange_id (fun r hr => by rw [HKR.out] at hr; cases hr; exact h1))
        go_wp2_with fail
        rw [← HW0.out]
        go_returns
        exact ⟨_, rfl, by rw [HN.out]; exact setAt_row HBK.out HO.out rfl hbg, HKP.out⟩
      · have hph : M = L ∧ k = n := by
          rcases HPH.out with h | h
          · exact h
          · exact (h1 (h.2 _ HKR.out)).elim
        obtain ⟨hML, rfl⟩ := hph
        have HML := Lib.hid hML
        have hq : a < q → q ≤ b := fun h => HWH.out (p, q) (by rw [← hML]; exact List.mem_of_getElem? HKR.out) (by omega) h
        have HFK := Lib.hid (fun r (h1' : a < q) (hr : M[k + 1]? = some r) => HFA.out k p q r (by rw [← hML]; exact HKR.out) (by omega) h1' (by rw [← hML]; exact hr))
        have hpq : Sm M := by rw [hML]; exact HSM.out
        have hsm := hpq.2 _ (List.mem_of_getElem? HKR.out)
        simp only at hsm
        have hpq2 : p < q := HLR.out (p, q) (by rw [← hML]; exact List.mem_of_getElem? HKR.out)
        clear hML hpq
        by_cases h2 : a ≤ p
        · have hqb : q ≤ b := by
            by_cases h3 : a < q
            · exact hq h3
            · omega
          have HN := Lib.hid (show rmRange a b L = M.take k ++ M.drop (k + 1) by
            rw [HRM.out, HD.out, show rmRange a b ((p, q) :: M.drop (k + 1)) = M.drop (k + 1) by simp [rmRange, h1, h2]])
          clear hq
          go_wp2_with fail
          rw [← HW0.out]
          clear HW0
          have hR2 : Reads W0.drew W0.drew.heap.size 2 (if c = ((k : Int) + 1).toNat then some (⟨rb, 0, none⟩ : Addr) else some ⟨rb, ((k : Int) + 1).toNat * 2, none⟩) (M.length - ((k : Int) + 1).toNat) (flat (M.drop (k + 1))) := by
            rw [show ((k : Int) + 1).toNat = k + 1 by omega]
            have hrd := reads_drop (ownsRow_ext HO.out (below_drew' (Below.refl _ W0))) (show k + 1 ≤ M.length by omega)
            by_cases h9 : c = k + 1
            · have h10 : M.length - (k + 1) = 0 := by omega
              have h11 := hrd.1
              rw [h10] at h11 ⊢
              exact ⟨h11, fun h => absurd h (by omega)⟩
            · rw [if_neg h9]; exact hrd
          have hkc1 : k ≤ c := by omega
          have hw1 := wrap_one k (by omega)
          have hkc6 : k + 1 ≤ M.length := by omega
          have hq1 : 0 ≤ (k : Int) + 1 := by omega
          have hq2 : (k : Int) + 1 ≤ (c : Int) := by omega
          have hq4 : (k : Int) + 1 ≤ (M.length : Int) := by omega
          have HR2 := Lib.hid hR2
          clear hR2
          refine wp_region_order (fun w' => W0.grownBy w' (some rb)) [0, 1, 2, 3, 4, 5, 6, 7, 8, 9, 10, 11, 12, 13] [14, 15, 16, 17] (by kernel_rfl) (by kernel_rfl) (grown_of_bel (below_drew' (Below.refl _ _))) ?_
          repeat
            apply TakesThen.cons rfl rfl
            · intro w' hw'
              have x0 := hw'.cell e0 (by simp; omega)
              go_simp
              with_reducible rfl
            try simp only [Act.put, List.setIfInBounds_toArray, List.set_cons_zero, List.set_cons_succ]
          refine TakesThen.nil ?_
          simp only [Act.put, List.getElem_toArray, List.getElem_cons_succ, List.getElem_cons_zero, List.setIfInBounds_toArray, List.set_cons_zero, List.set_cons_succ]
          refine Chain.step rfl rfl (fun K hK => ?_)
          refine wp_append_any _ (.tmp 109) (.tmp 116) 70 rfl base 68 i0 _ 2 16 Try.underlying70 hi0 hz0 hz1 hz2 rfl (by omega) (.slice (some ⟨rb, 0, none⟩) k c) k _ rfl
            (ownsRow_ext (own_cut HO.out (show k ≤ M.length by omega)) (below_drew' (Below.refl _ _))) _ _ _ _ _ rfl HR2.out (flat_one _) (by simp only [maxLen]; omega) (by omega) (show base ≤ W0.heap.size by omega) ?_
          intro v3 w3 hown3 hgr hat
          try rw [show ((k : Int) + 1).toNat = k + 1 by omega] at hown3
          obtain ⟨A3, c3, rfl, _⟩ := own_slice hown3
          have hgr' := grown_grown (grown_of_bel (below_drew' (Below.refl W0.heap.size W0))) hgr
          have HB3 := Lib.hid (HBK.out.grown hgr' (fun h => hrb (Option.some.inj h).symm))
          have HS := Lib.hid (setAt_store (L := M.take k ++ M.drop (k + 1)) HB3.out hbg (by rw [flat_append, flat_take]; exact hown3) (by simp; omega))
          rw [← HN.out] at HS
          have HK3 := Lib.hid ((HKP.out.grown hgr' (r2 := (Value.slice A3 (k + (M.length - (k + 1))) c3).ownBlock) (by
            rcases hat with h | h
            · exact .inl h
            · exact .inr ⟨_, h, Nat.le_refl _⟩)).set 0 (.slice A3 (k + (M.length - (k + 1))) c3))
          have x0 := HB3.out.cell 0
          have x1 := HB3.out.frozen 0
          refine hK _ _ hgr' ?_
          have HX := Lib.hid (show ∃ x, (Value.slice A3 (k + (M.length - (k + 1))) c3).ownBlock = some x ∧ (x = rb ∨ W0.heap.size ≤ x) from by
            rcases hat with h | h
            · exact ⟨rb, h, .inl rfl⟩
            · exact ⟨_, h, .inr (Nat.le_refl _)⟩)
          clear hK hown3 hat hgr
          try simp only [Act.put, List.setIfInBounds_toArray, List.set_cons_zero, List.set_cons_succ]
          refine Chain.step rfl rfl (fun K hK => ?_)
          go_simp
          refine hK _ _ hgr' ?_
          clear hK
          try simp only [Act.put, List.setIfInBounds_toArray, List.set_cons_zero, List.set_cons_succ]
          refine Chain.step rfl rfl (fun K hK => ?_)
          go_simp
          refine hK _ _ hgr' ?_
          clear hK
          try simp only [Act.put, List.setIfInBounds_toArray, List.set_cons_zero, List.set_cons_succ]
          refine Chain.last (by kernel_rfl) rfl rfl (fun K hK => ?_)
          go_simp
          refine hK _ _ ?_
          clear hK
          refine NoPanic.normal ?_
          go_wp2_with fail
          obtain ⟨x, hx, hxr⟩ := HX.out
          rw [hx, HN.out] at HS
          rw [hx] at HK3
          have s9 : w.heap.size < (w3.setCell ⟨g, 0, none⟩ (.slice A3 (k + (M.length - (k + 1))) c3)).heap.size := by simp [World.setCell]; have := hgr'.size; omega
          have v90 : (w3.setCell ⟨g, 0, none⟩ (.slice A3 (k + (M.length - (k + 1))) c3)).cell? ⟨w.heap.size, 0, none⟩ = some (.int .i64 a) := by
            rw [World.cell?_setCell_other _ _ _ _ (by intro h; injection h with h; omega)]; exact hgr'.cell y0 (fun h => hrw (Option.some.inj h).symm)
          have v91 : (w3.setCell ⟨g, 0, none⟩ (.slice A3 (k + (M.length - (k + 1))) c3)).cell? ⟨w.heap.size, 1, none⟩ = some (.int .i64 b) := by
            rw [World.cell?_setCell_other _ _ _ _ (by intro h; injection h with h; omega)]; exact hgr'.cell y1 (fun h => hrw (Option.some.inj h).symm)
          have HF2 := Lib.hid (show ∀ r, (M.take k ++ M.drop (k + 1))[k]? = some r → b ≤ r.1 from fun r hr => by
            rw [List.getElem?_append_right (by simp; omega), List.length_take, Nat.min_eq_left (by omega), Nat.sub_self, List.getElem?_drop] at hr
            exact HFK.out r (by omega) hr)
          have hlen : (M.take k ++ M.drop (k + 1)).length ≤ 100 := by simp; omega
          have hxw : x ≠ w.heap.size := by omega
          go_roundw
          case rel => exact ⟨k, k + 1, x, M.take k ++ M.drop (k + 1), by go_num, by go_num, by omega, by omega, hlen, HS, HK3, Lib.hid (HN.out.trans (rmRange_id HF2.out).symm), Lib.hid (.inr ⟨by omega, HF2.out⟩), s9, hxw, v90, v91⟩
          case measure => simp [intOf]; omega
        · by_cases h3 : a < q
          · have hqb := hq h3
            have HN := Lib.hid (show rmRange a b L = M.set k (p, a) by
              rw [HRM.out, HD.out, show rmRange a b ((p, q) :: M.drop (k + 1)) = (p, a) :: M.drop (k + 1) by simp [rmRange, h1, h2, h3], set_at HKR.out])
            clear hq
            go_wp2_with fail
            rw [← HW0.out]
            clear HW0
            refine wp_region_order (fun w' => W0.grownBy w' (some rb)) [0, 1, 2, 3, 4, 5, 6, 7, 8] [9, 10, 11] (by kernel_rfl) (by kernel_rfl) (grown_of_bel (below_drew' (Below.refl _ _))) ?_
            repeat
              apply TakesThen.cons rfl rfl
              · intro w' hw'
                have x0 := hw'.cell e0 (by simp; omega)
                have x1 := hw'.cell t0 (by simp; omega)
                have x2 := hw'.cell y0 (by simp; omega)
                go_simp
                with_reducible rfl
              try simp only [Act.put, List.setIfInBounds_toArray, List.set_cons_zero, List.set_cons_succ]
            refine TakesThen.nil ?_
            refine Chain.step rfl rfl (fun K hK => ?_)
            go_simp
            refine (NewInterval_any (p) (a) W0.drew).mono ?_
            rintro e' w2 ⟨rfl, hb2⟩
            have hX2 : Below W0.heap.size W0 w2 := below_trans (below_drew' (Below.refl _ _)) hb2
            refine hK _ _ (grown_of_bel hX2) ?_
            clear hK hb2
            try simp only [Act.put, List.setIfInBounds_toArray, List.set_cons_zero, List.set_cons_succ]
            refine Chain.step rfl rfl (fun K hK => ?_)
            go_simp
            refine hK _ _ (grown_of_bel hX2) ?_
            clear hK
            try simp only [Act.put, List.setIfInBounds_toArray, List.set_cons_zero, List.set_cons_succ]
            have HO1x := Lib.hid (ownsRow_ext HO.out hX2)
            have z1 : w2.cell? ⟨rb, k * 2, none⟩ = (flat M)[k * 2]? := HO1x.out.cellAt _ (by omega)
            have z2 : w2.cell? ⟨rb, k * 2 + 1, none⟩ = (flat M)[k * 2 + 1]? := HO1x.out.cellAt _ (by omega)
            rw [(flat_at HKR.out).1] at z1
            rw [(flat_at HKR.out).2] at z2
            have z3 := HO1x.out.frozenAt (k * 2)
            have z4 := HO1x.out.frozenAt (k * 2 + 1)
            have s1 := HO1x.out.stored (k * 2) (.int .i64 (p))
            have s2 := s1.1.stored (k * 2 + 1) (.int .i64 (a))
            rw [flat_set HKR.out] at s2
            have HO1 := Lib.hid s2.1
            have HBK1 := Lib.hid (((HBK.out.below hX2 HBK.out.lt).far (p := ⟨rb, k * 2, none⟩) (Ne.symm hrb) (.int .i64 (p))).far (p := ⟨rb, k * 2 + 1, none⟩) (Ne.symm hrb) (.int .i64 (a)))
            have HKP1 := Lib.hid (((HKP.out.below hX2).grown s1.2 (.inl rfl)).grown s2.2 (.inl rfl))
            clear s1 s2
            have u0 := cell_bel y0 hX2
            have u1 := cell_bel y1 hX2
            have u2 := hX2.size
            clear hX2
            refine Chain.last (by kernel_rfl) rfl rfl (fun K hK => ?_)
            go_simp
            refine hK _ _ ?_
            clear hK
            refine NoPanic.normal ?_
            go_wp2_with fail
            have s9 : w.heap.size < ((w2.setCell ⟨rb, k * 2, none⟩ (.int .i64 p)).setCell ⟨rb, k * 2 + 1, none⟩ (.int .i64 a)).heap.size := by simp [World.setCell]; omega
            have v90 : ((w2.setCell ⟨rb, k * 2, none⟩ (.int .i64 p)).setCell ⟨rb, k * 2 + 1, none⟩ (.int .i64 a)).cell? ⟨w.heap.size, 0, none⟩ = some (.int .i64 a) := by
              rw [World.cell?_setCell_other _ _ _ _ (by intro h; injection h with h; omega), World.cell?_setCell_other _ _ _ _ (by intro h; injection h with h; omega)]; exact u0
            have v91 : ((w2.setCell ⟨rb, k * 2, none⟩ (.int .i64 p)).setCell ⟨rb, k * 2 + 1, none⟩ (.int .i64 a)).cell? ⟨w.heap.size, 1, none⟩ = some (.int .i64 b) := by
              rw [World.cell?_setCell_other _ _ _ _ (by intro h; injection h with h; omega), World.cell?_setCell_other _ _ _ _ (by intro h; injection h with h; omega)]; exact u1
            have HF2 := Lib.hid (show ∀ r, (M.set k (p, a))[k + 1]? = some r → b ≤ r.1 from fun r hr => by
              rw [List.getElem?_set_ne (by omega)] at hr
              exact HFK.out r h3 hr)
            have hlen : (M.set k (p, a)).length ≤ 100 := by simp; omega
            go_roundw
            case rel => exact ⟨k + 1, k + 1, rb, M.set k (p, a), by go_num, by go_num, by omega, by omega, hlen, Lib.hid (setAt_row HBK1.out HO1.out (by simp) hbg), HKP1, Lib.hid (HN.out.trans (rmRange_id HF2.out).symm), Lib.hid (.inr ⟨by omega, HF2.out⟩), s9, hrw, v90, v91⟩
            case measure => simp [intOf]; omega
          · have HN := Lib.hid (show rmRange a b L = M.take (k + 1) ++ rmRange a b (M.drop (k + 1)) by
              rw [HRM.out, HD.out, show rmRange a b ((p, q) :: M.drop (k + 1)) = (p, q) :: rmRange a b (M.drop (k + 1)) by simp [rmRange, h1, h2, h3], take_snoc' _ _ _ HKR.out]; simp)
            clear hq
            go_wp2_with fail
            rw [← HW0.out]
            go_roundw
            case rel => exact ⟨k + 1, k + 1, rb, M, by go_num, by go_num, by omega, by omega, hMl, Lib.hid (setAt_row HBK.out HO.out rfl hbg), HKP, HN, Lib.hid (.inl ⟨HML.out, rfl⟩), by omega, hrw, y0, y1⟩
            case measure => simp [intOf]; omega
    · have HN := Lib.hid (show rmRange a b L = M by
        rw [HRM.out]
        refine rmRange_id (fun r hr => ?_)
        have hlt := (List.getElem?_eq_some_iff.1 hr).1
        rcases HPH.out with h | h
        · omega
        · exact h.2 r hr)
      go_wp2_with fail
      go_end0
      exact ⟨_, rfl, by rw [HN.out]; exact setAt_row HBKr.out HOr.out rfl hbg, HKPr.out⟩
end Go.Proofs.Ytckdcceglmlinaa
