/- The walk of mergeArrays (without a cache). Condition: the choices lie in memory and are well made. -/
import Derived.Test.YtcbabfndfikejaaZ14
import Derived.Deep.CutRange
namespace Go.Proofs.Ytcbabfndfikejaa
open Go.RowKit
set_option linter.unusedSimpArgs false
set_option maxRecDepth 40000 in
set_option maxHeartbeats 16000000 in
theorem faU_any (wild : Bool) (Ok : Tr → Tr → Prop) (S : List Addr) (n : Nat) (IH : MrgTo wild Ok (.pointer none) IU S n) (p q : Addr) (f g : Tops) (w : World) (L : Nat) (Φ Z : Nat → Prop) (hZ : OldX Z w) (hsz : f.size ≤ n) (hi : IU Z L Φ w)
    (hp : KOX w Z p 2 f) (hq : KOX w Z q 2 g) (kp : KidIn w Z p S) (kq : KidIn w Z q S) (hcl : ClX w Z S) (mf : ∀ s k a, (s, k, a) ∈ f.list → (0 ≤ s ∧ s ≤ 1000) ∧ Made 64 (k, a)) (mg' : ∀ s k a, (s, k, a) ∈ g.list → (0 ≤ s ∧ s ≤ 1000) ∧ Made 64 (k, a))
    (hwf : f.wf) (hwg : g.wf) (hlf : f.len ≤ 64) (hlg : g.len ≤ 64) (hN0 : 0 < f.len + g.len) (hL : L + f.size + 1 ≤ 1000000000) (hok : ∀ s k a k' b, (s, k, a) ∈ f.list → (s, k', b) ∈ g.list → Ok (k, a) (k', b)) (hsp : mgA wild f g = (2, f) → p ∈ S) (hsq : mgA wild f g = (2, g) → q ∈ S) (hred : mgA wild f g ≠ (2, f) → mgA wild f g ≠ (2, g) → RDs wild Ok (mgA wild f g)) :
    Calls Try.prog 88 #[.pointer (some p), .pointer (some q), .bool wild, (.pointer none)] w (MOut S (mgA wild f g) (RDs wild Ok) IU Z (L + f.size + 1) Φ w) := by
  have HZ := Lib.hid hZ
  have HCI := Lib.hid (cacheU)
  obtain ⟨N, hN⟩ : ∃ N, N = f.len + g.len := ⟨_, rfl⟩
  have hadd : IntKind.i64.wrap ((f.len : Int) + (g.len : Int)) = ((N : Nat) : Int) := by rw [IntKind.wrap_i64]; omega
  have hN128 : N ≤ 128 := by omega
  obtain ⟨i0, hi0, hz0, hz1, hz2⟩ := info_parts pc72_info
  obtain ⟨j0, hj0, hy0, hy1, hy2⟩ := info_parts int_info
  have hmk1 : ∀ W : World, (Instr.makeSlice 22 (.int .i64 (N : Nat)) (.int .i64 (N : Nat))).run Try.prog W = .ok (.slice (some ⟨W.heap.size, 0, none⟩) N N) (W.alloc (.cells (sRow N []) 3)) := fun W => by
    have := run_make_rowN (P := Try.prog) 22 3 j0 _ Try.underlying22 hj0 hy0 .i64 .i64 N N (Nat.le_refl _) (by rw [hy2]; omega) (by omega) W
    rw [this, hy1, ← sRow_nil, Nat.mul_one]; rfl
  have hmk2 : ∀ W : World, (Instr.makeSlice 73 (.int .i64 (N : Nat)) (.int .i64 (N : Nat))).run Try.prog W = .ok (.slice (some ⟨W.heap.size, 0, none⟩) N N) (W.alloc (.cells (pRow N []) 72)) := fun W => by
    have := run_make_rowN (P := Try.prog) 73 72 i0 (.pointer none) Try.underlying73 hi0 hz0 .i64 .i64 N N (Nat.le_refl _) (by rw [hz2]; omega) (by omega) W
    rw [this, hz1, ← pRow_nil, Nat.mul_one]; rfl
  have HN := Lib.hid hN
  clear hN hi0 hz0 hz1 hz2 hj0 hy0 hy1 hy2
  obtain ⟨ga, e, Ap, cp, As, cs, hpl⟩ := hp.lens
  subst e
  obtain ⟨gb, e, Aq, cq, At, ct, hql⟩ := hq.lens
  subst e
  have HPL := Lib.hid hpl
  have HQL := Lib.hid hql
  have HI := Lib.hid hi
  have HP := Lib.hid hp
  have HQ := Lib.hid hq
  have HKP := Lib.hid kp
  have HKQ := Lib.hid kq
  have HCL := Lib.hid hcl
  have HMF := Lib.hid mf
  have HMG := Lib.hid mg'
  have HWF := Lib.hid hwf
  have HWG := Lib.hid hwg
  have HIH := Lib.hid IH
  have HSZ := Lib.hid hsz
  have HLL := Lib.hid hL
  have HOKK := Lib.hid hok
  have HSP := Lib.hid hsp
  have HSQ := Lib.hid hsq
  have HRED := Lib.hid hred
  obtain ⟨_, x1⟩ := HPL.out w (Move.refl Z w)
  obtain ⟨_, x2⟩ := HQL.out w (Move.refl Z w)
  clear hpl hql hi hp hq kp kq hcl mf mg' hwf hwg IH hsz hL hZ hok hsp hsq hred
  have hnv : ∀ w : World, (binOp .neq 87 (.pointer none) (.pointer none)).run Try.prog w = .ok (.bool false) w := fun w => by simp [go_sem, Try.underlying87]
  have HD := Lib.hid (Dr.refl w)
  go_enter Try.func88, Try.ntmps88
  go_wp2_with fail
  refine wp_region_order (fun w' => Below w.heap.size w w') [0, 1, 2, 3, 4, 5, 6, 7, 8, 9, 10] [11, 12] (by kernel_rfl) (by kernel_rfl) (below_drew' (Below.refl _ _)) ?_
  repeat
    apply TakesThen.cons rfl rfl
    · intro w' hw'
      obtain ⟨_, x1⟩ := HPL.out w' ((HD.out.stay.trans (Stay.of_below hw')).move Z)
      obtain ⟨_, x2⟩ := HQL.out w' ((HD.out.stay.trans (Stay.of_below hw')).move Z)
      go_simp
      with_reducible rfl
    try simp only [Act.put, List.getElem_toArray, List.getElem_cons_succ, List.getElem_cons_zero, List.setIfInBounds_toArray, List.set_cons_zero, List.set_cons_succ]
  refine TakesThen.nil ?_
  refine Chain.step rfl rfl (fun K hK => ?_)
  go_simp
  obtain ⟨w1, hw⟩ : ∃ z, z = (w.alloc (Obj.cells (sRow N []) 3)).drew := ⟨_, rfl⟩
  have hb1 : Below w.heap.size w w1 := by rw [hw]; exact below_drew' ((Below.refl _ _).alloc (Nat.le_refl _) _)
  have hc1 : w1.heap[w.heap.size]? = some (Obj.cells (sRow N []) 3 (0, 0)) := by rw [hw]; exact heap_new' rfl
  rw [← hw]
  clear hw
  obtain ⟨rs, hrs⟩ : ∃ z, z = w.heap.size := ⟨_, rfl⟩
  refine hK _ _ hb1 ?_
  clear hK
  rw [← hrs]
  rw [← hrs] at hc1
  have HRS := Lib.hid hrs
  clear hrs
  try simp only [Act.put, List.getElem_toArray, List.getElem_cons_succ, List.getElem_cons_zero, List.setIfInBounds_toArray, List.set_cons_zero, List.set_cons_succ]
  refine Chain.last (by kernel_rfl) rfl rfl (fun K hK => ?_)
  go_simp
  refine hK _ _ ?_
  clear hK
  refine NoPanic.normal ?_
  have HB1 := Lib.hid hb1
  have HC1 := Lib.hid hc1
  clear hb1 hc1 x1 x2
  go_upto_region 12 with fail
  go_cut [15] from 58 to 69 (fun s15 wx => ∃ rb gm : Nat, s15 = .pointer (some ⟨gm, 0, none⟩) ∧ Hid (Below w1.heap.size w1 wx ∧ wx.heap[gm]? = some (.cells #[.slice (some ⟨rb, 0, none⟩) N N] 73 (0, 0)) ∧ wx.heap[rb]? = some (.cells (pRow N []) 72 (0, 0)) ∧ w1.heap.size ≤ rb ∧ w1.heap.size ≤ gm ∧ gm ≠ rb))
  case first =>
    as_aux_lemma =>
    refine wp_region_sch (fun w' => Below w1.heap.size w1 w') (.take 0 <| .take 1 <| .take 2 <| .take 3 <| .take 4 <| .take 5 <| .take 6 <| .take 7 <| .take 8 <| .take 9 <| .take 10 <| .fork 11 12 (.step 12 <| .step 13 .done) (.step 11 <| .step 13 .done)) (by kernel_rfl) (by kernel_rfl) (below_drew' (Below.refl _ _)) ?_
    repeat
      apply Along.take rfl rfl
      · intro w' hw'
        obtain ⟨_, x1⟩ := HPL.out w' (((HD.out.stay.trans (Stay.of_below HB1.out)).trans (Stay.of_below hw')).move Z)
        obtain ⟨_, x2⟩ := HQL.out w' (((HD.out.stay.trans (Stay.of_below HB1.out)).trans (Stay.of_below hw')).move Z)
        go_simp
        with_reducible rfl
      try simp only [Act.put, List.getElem_toArray, List.getElem_cons_succ, List.getElem_cons_zero, List.setIfInBounds_toArray, List.set_cons_zero, List.set_cons_succ]
    refine Along.fork ?_ ?_
    · refine Along.step rfl rfl (fun K hK => ?_)
      go_simp
      refine hK _ _ (below_drew' (below_alloc' (Below.refl _ _) _)) ?_
      clear hK
      try simp only [Act.put, List.getElem_toArray, List.getElem_cons_succ, List.getElem_cons_zero, List.setIfInBounds_toArray, List.set_cons_zero, List.set_cons_succ]
      refine Along.step rfl rfl (fun K hK => ?_)
      go_simp
      refine hK _ _ (below_drew' (below_alloc' (below_alloc' (Below.refl _ _) _) _)) ?_
      clear hK
      try simp only [Act.put, List.getElem_toArray, List.getElem_cons_succ, List.getElem_cons_zero, List.setIfInBounds_toArray, List.set_cons_zero, List.set_cons_succ]
      refine Along.last (by kernel_rfl) rfl rfl rfl (fun K hK => ?_)
      go_simp
      refine hK _ _ ?_
      clear hK
      try simp only [Act.put, List.getElem_toArray, List.getElem_cons_succ, List.getElem_cons_zero, List.setIfInBounds_toArray, List.set_cons_zero, List.set_cons_succ]
      refine Along.done ?_
      go_wp2_with fail
      go_meet
      exact ⟨w1.heap.size, w1.heap.size + 1, rfl, Lib.hid (two_rows N w1)⟩
    · refine Along.step rfl rfl (fun K hK => ?_)
      go_simp
      refine hK _ _ (below_drew' (below_alloc' (Below.refl _ _) _)) ?_
      clear hK
      try simp only [Act.put, List.getElem_toArray, List.getElem_cons_succ, List.getElem_cons_zero, List.setIfInBounds_toArray, List.set_cons_zero, List.set_cons_succ]
      refine Along.step rfl rfl (fun K hK => ?_)
      go_simp
      refine hK _ _ (below_drew' (below_alloc' (below_alloc' (Below.refl _ _) _) _)) ?_
      clear hK
      try simp only [Act.put, List.getElem_toArray, List.getElem_cons_succ, List.getElem_cons_zero, List.setIfInBounds_toArray, List.set_cons_zero, List.set_cons_succ]
      refine Along.last (by kernel_rfl) rfl rfl rfl (fun K hK => ?_)
      go_simp
      refine hK _ _ ?_
      clear hK
      try simp only [Act.put, List.getElem_toArray, List.getElem_cons_succ, List.getElem_cons_zero, List.setIfInBounds_toArray, List.set_cons_zero, List.set_cons_succ]
      refine Along.done ?_
      go_wp2_with fail
      go_meet
      exact ⟨w1.heap.size + 1, w1.heap.size, rfl, Lib.hid (two_rows' N w1)⟩
  case rest =>
  obtain ⟨rb, gm, rfl, HTWO⟩ := hcut
  have HB12 := Lib.hid (HB1.out.trans (HTWO.out.1.mono HB1.out.size))
  have HAM0 := Lib.hid (AM.start (RD := RDs wild Ok) HCI.out HZ.out HI.out HP.out HQ.out HKP.out HKQ.out HCL.out (below_trans HD.out.below HB12.out) HTWO.out.2.1 HTWO.out.2.2.1 ((HTWO.out.1.block rs (Array.getElem?_eq_some_iff.1 HC1.out).1).trans HC1.out) (by have := HTWO.out.2.2.2.1; have := HB1.out.size; have := HD.out.below.size; omega) (by rw [HRS.out]; exact HD.out.below.size) (by have := HTWO.out.2.2.2.2.1; have := HB1.out.size; have := HD.out.below.size; omega) (by have := HTWO.out.2.2.2.1; have := (Array.getElem?_eq_some_iff.1 HC1.out).1; omega) HTWO.out.2.2.2.2.2 (by have := HTWO.out.2.2.2.2.1; have := (Array.getElem?_eq_some_iff.1 HC1.out).1; omega))
  clear HB1 HC1 HTWO HB12
  go_step
  go_step
  go_cut [11, 12, 13] from 16 to 221 (fun s11 s12 s13 wx => ∃ (i j : Nat) (D : List En) (PD : List (Tr × Tr)) (L1 : Nat) (Φ1 : Nat → Prop), s11 = .int .i64 (i : Nat) ∧ s12 = .int .i64 (j : Nat) ∧ s13 = .int .i64 (D.length : Nat) ∧ Hid (ZI wild f g i j D PD) ∧ Hid (AM S (RDs wild Ok) IU Z Φ f g ⟨ga, 0, none⟩ ⟨gb, 0, none⟩ N rb rs gm w N D L1 Φ1 wx) ∧ Hid (L1 + (f.drop i).size ≤ L + f.size) ∧ (i < f.len → g.len ≤ j))
  case first =>
    go_wp2_with fail
    go_loopw [11, 12, 13] (fun ii jj kk wr => ∃ (i j : Nat) (D : List En) (PD : List (Tr × Tr)) (L1 : Nat) (Φ1 : Nat → Prop), ii = .int .i64 (i : Nat) ∧ jj = .int .i64 (j : Nat) ∧ kk = .int .i64 (D.length : Nat) ∧ Hid (ZI wild f g i j D PD) ∧ Hid (AM S (RDs wild Ok) IU Z Φ f g ⟨ga, 0, none⟩ ⟨gb, 0, none⟩ N rb rs gm w N D L1 Φ1 wr) ∧ Hid (L1 + (f.drop i).size ≤ L + f.size)) (fun ii jj _ _ => (f.len - (intOf ii).toNat) + (g.len - (intOf jj).toNat))
    case atStart => exact ⟨0, 0, [], [], L, Φ, rfl, rfl, rfl, Lib.hid (ZI.start wild f g), HAM0, Lib.hid (Nat.le_refl _)⟩
    case round =>
      obtain ⟨i, j, D, PD, L1, Φ1, rfl, rfl, rfl, HZI, HAM, HL1⟩ := hrel
      by_cases hi : i < f.len
      · by_cases hj : j < g.len
        · obtain ⟨s, k, a, hfa⟩ := Tops.at_some f i hi
          obtain ⟨t, k', b, hgb⟩ := Tops.at_some g j hj
          obtain ⟨b1, o1, c1, b2, o2, c2, qa, hqa, hra, hrda⟩ := HAM.out.hp.read HAM.out.kp hfa
          obtain ⟨b3, o3, c3, b4, o4, c4, qb, hqb, hrb, hrdb⟩ := HAM.out.hq.read HAM.out.kq hgb
          have hDN : D.length < N := by have := HZI.out.len; have := HN.out; omega
          obtain ⟨hs1, hma⟩ := HMF.out s k a (Tops.at_list f i _ hfa)
          obtain ⟨ht1, hmb⟩ := HMG.out t k' b (Tops.at_list g j _ hgb)
          have hasz := Tops.drop_size f i s k a hfa
          have HASZ := Lib.hid hasz
          have HAS := Lib.hid (Tops.at_size hfa)
          have HFA := Lib.hid hfa
          have HGB := Lib.hid hgb
          have HQA := Lib.hid hqa
          have HQB := Lib.hid hqb
          have HRA := Lib.hid hra
          have HRB := Lib.hid hrb
          have HRDA := Lib.hid hrda
          have HRDB := Lib.hid hrdb
          have HMA := Lib.hid hma
          have HMB := Lib.hid hmb
          clear hfa hgb hqa hqb hra hrb hrda hrdb hma hmb hasz ht1
          obtain ⟨x1, x2, x3, x4⟩ := HRDA.out wr (Move.refl _ _)
          obtain ⟨y1, y2, y3, y4⟩ := HRDB.out wr (Move.refl _ _)
          have hnq : ∀ (w : World) (q : Addr), (binOp .neq 72 (.pointer (some q)) (.pointer none)).run Try.prog w = .ok (.bool true) w := fun w q => by simp [go_sem, Try.underlying72]
          by_cases hst : s = t
          · as_aux_lemma =>
            have hb : (s == t) = true := by rw [beq_iff_eq]; exact hst
            have hs7 : (s == 2147483647) = false := by rw [beq_eq_false_iff_ne]; omega
            have hs7' : ¬ s = 2147483647 := by omega
            have HST := Lib.hid hst
            clear hst
            go_wp2_with fail
            refine wp_region_order (fun w' => w' = wr.drew) [0, 1, 2, 3, 4, 5, 6, 7, 8, 9, 10, 11, 12, 13, 14] [] (by kernel_rfl) (by kernel_rfl) rfl ?_
            repeat
              apply TakesThen.cons rfl rfl
              · intro w' hw'
                subst hw'
                go_simp
                with_reducible rfl
              try simp only [Act.put, List.getElem_toArray, List.getElem_cons_succ, List.getElem_cons_zero, List.setIfInBounds_toArray, List.set_cons_zero, List.set_cons_succ]
            refine TakesThen.nil (Chain.nil ?_)
            obtain ⟨wd, hwd⟩ : ∃ z, z = wr.drew := ⟨_, rfl⟩
            have hdd : Dr wr wd := by rw [hwd]; exact ⟨1, rfl⟩
            rw [← hwd]
            clear hwd x1 x2 x3 x4 y1 y2 y3 y4
            have HAMD := Lib.hid (HAM.out.below HCI.out hdd.below)
            have HDD := Lib.hid hdd
            have HEQ := Lib.hid (equals_any a k b k' qa qb wd (HRA.out.noX.stay hdd.stay) (HRB.out.noX.stay hdd.stay) HMA.out.wf HMB.out.wf)
            obtain ⟨x1, x2, x3, x4⟩ := HRDA.out wd (hdd.stay.move _)
            obtain ⟨y1, y2, y3, y4⟩ := HRDB.out wd (hdd.stay.move _)
            clear hdd
            go_wp2_with fail
            refine HEQ.out.mono ?_
            rintro e w3 ⟨rfl, hd3⟩
            have HD3 := Lib.hid (HDD.out.trans hd3)
            have HAM3 := Lib.hid (HAMD.out.below HCI.out hd3.below)
            clear hd3 HEQ x1 x2 x3 x4 y1 y2 y3 y4
            by_cases hab : k = k' ∧ a = b
            · as_aux_lemma =>
              obtain ⟨rfl, rfl⟩ := hab
              rw [eqB_true ⟨rfl, rfl⟩]
              obtain ⟨⟨f1, f4⟩, f2, wx, hwx, hmx, ⟨f3, f5⟩, wy, hwy, hamy⟩ := HAM3.out.store HCI.out hDN (s, (qa, k, a), 0) (HRA.out.stay HD3.out.stay) HMA.out.wf (E := []) Fine.nil (by simpa using HQA.out) (by rw [List.append_nil]; exact HAM3.out.cl)
              dsimp only at hwx hwy
              have HMX := Lib.hid hmx
              have HAMY := Lib.hid hamy
              have HZN := Lib.hid (show ZI wild f g (i + 1) (j + 1) (D ++ [(s, (qa, k, a), 0)]) (PD ++ [((k, a), (k, a))]) from by
                have h0 := HZI.out.both (q := qa) HFA.out (by rw [HST.out]; exact HGB.out) HMA.out.wf HMA.out.wf
                rwa [show mg wild (k, a) (k, a) = (k, a) by unfold mg; rw [mrg, if_pos rfl]] at h0)
              clear hmx hamy
              go_wp2_with fail
              go_roundw
              case rel => exact ⟨i + 1, j + 1, _, _, L1, Φ1, by go_num, by go_num, by rw [List.length_append, List.length_singleton]; go_num, HZN, HAMY, Lib.hid (by have := HL1.out; have := HASZ.out; omega)⟩
              case measure => simp [intOf]; omega
            · as_aux_lemma =>
              rw [eqB_false hab]
              clear hab
              have HREC := Lib.hid (HIH.out (k, a) (k', b) qa qb w3 L1 Φ1 (Zr Z rb rs) HAM3.out.oldX (by have := HAS.out; have := HSZ.out; simp only; omega) HAM3.out.ci (HRA.out.stay HD3.out.stay) (HRB.out.stay HD3.out.stay) HMA.out HMB.out (HOKK.out s k a k' b (Tops.at_list f i _ HFA.out) (by rw [HST.out]; exact Tops.at_list g j _ HGB.out)) HQA.out HQB.out HAM3.out.cl (by have := HL1.out; have := HASZ.out; have := HLL.out; simp only; omega))
              go_wp2_with fail
              refine HREC.out.mono ?_
              rintro e w4 ⟨m, E, Φ2, rfl, hE, hm, hclE, hrm, hi2, hΦ2, hc2, hs2⟩
              have hmade : Wf (mg wild (k, a) (k', b)).1 (mg wild (k, a) (k', b)).2 := (mrg_made wild (show 64 + 64 ≤ 1000 by decide) _ _ _ HMA.out HMB.out).wf
              have HAM4 := Lib.hid (HAM3.out.call hi2 hΦ2 hc2 hs2)
              obtain ⟨⟨f1, f4⟩, f2, wx, hwx, hmx, ⟨f3, f5⟩, wy, hwy, hamy⟩ := HAM4.out.store HCI.out hDN (s, (m, mg wild (k, a) (k', b)), 0) hrm hmade hE hm hclE
              dsimp only at hwx hwy
              have HAMY := Lib.hid hamy
              have HZN := Lib.hid (HZI.out.both (q := m) HFA.out (by rw [HST.out]; exact HGB.out) HMA.out.wf HMB.out.wf)
              clear hE hm hclE hrm hi2 hΦ2 hc2 hs2 hmx hamy HREC hmade
              go_wp2_with fail
              go_roundw
              case rel => exact ⟨i + 1, j + 1, _, _, L1 + a.size + 1, Φ2, by go_num, by go_num, by rw [List.length_append, List.length_singleton]; go_num, HZN, HAMY, Lib.hid (by have := HL1.out; have := HASZ.out; omega)⟩
              case measure => simp [intOf]; omega
          · as_aux_lemma =>
            have hb : (s == t) = false := by rw [beq_eq_false_iff_ne]; exact hst
            go_wp2_with fail
            refine wp_region_order (fun w' => w' = wr.drew) [0, 1, 2, 3, 4, 5, 6, 7, 8, 9, 10, 11, 12, 13, 14] [] (by kernel_rfl) (by kernel_rfl) rfl ?_
            repeat
              apply TakesThen.cons rfl rfl
              · intro w' hw'
                subst hw'
                go_simp
                with_reducible rfl
              try simp only [Act.put, List.getElem_toArray, List.getElem_cons_succ, List.getElem_cons_zero, List.setIfInBounds_toArray, List.set_cons_zero, List.set_cons_succ]
            refine TakesThen.nil (Chain.nil ?_)
            obtain ⟨wd, hwd⟩ : ∃ z, z = wr.drew := ⟨_, rfl⟩
            have hdd : Dr wr wd := by rw [hwd]; exact ⟨1, rfl⟩
            rw [← hwd]
            clear hwd x1 x2 x3 x4 y1 y2 y3 y4
            have HAMD := Lib.hid (HAM.out.below HCI.out hdd.below)
            have HDD := Lib.hid hdd
            obtain ⟨x1, x2, x3, x4⟩ := HRDA.out wd (hdd.stay.move _)
            obtain ⟨y1, y2, y3, y4⟩ := HRDB.out wd (hdd.stay.move _)
            clear hdd
            by_cases hlt : s < t
            · as_aux_lemma =>
              have hdl : decide (s < t) = true := decide_eq_true hlt
              have HLT := Lib.hid hlt
              clear hlt
              go_wp2_with fail
              refine wp_region_order (fun w' => w' = wd.drew) [0, 1, 2, 3, 4, 5, 6, 7, 8, 9, 10, 11, 12, 13, 14] [] (by kernel_rfl) (by kernel_rfl) rfl ?_
              repeat
                apply TakesThen.cons rfl rfl
                · intro w' hw'
                  subst hw'
                  go_simp
                  with_reducible rfl
                try simp only [Act.put, List.getElem_toArray, List.getElem_cons_succ, List.getElem_cons_zero, List.setIfInBounds_toArray, List.set_cons_zero, List.set_cons_succ]
              refine TakesThen.nil (Chain.nil ?_)
              obtain ⟨we, hwd⟩ : ∃ z, z = wd.drew := ⟨_, rfl⟩
              have hdd : Dr wd we := by rw [hwd]; exact ⟨1, rfl⟩
              rw [← hwd]
              clear hwd x1 x2 x3 x4 y1 y2 y3 y4
              have HAME := Lib.hid (HAMD.out.below HCI.out hdd.below)
              have HDE := Lib.hid (HDD.out.trans hdd)
              clear hdd
              obtain ⟨⟨f1, f4⟩, f2, wx, hwx, hmx, ⟨f3, f5⟩, wy, hwy, hamy⟩ := HAME.out.store HCI.out hDN (s, (qa, k, a), 0) (HRA.out.stay HDE.out.stay) HMA.out.wf (E := []) Fine.nil (by simpa using HQA.out) (by rw [List.append_nil]; exact HAME.out.cl)
              dsimp only at hwx hwy
              obtain ⟨x1, x2, x3, x4⟩ := HRDA.out wx ((HDE.out.stay.move _).trans hmx)
              obtain ⟨y1, y2, y3, y4⟩ := HRDB.out wx ((HDE.out.stay.move _).trans hmx)
              have HAMY := Lib.hid hamy
              have HZN := Lib.hid (HZI.out.left (q := qa) HFA.out (fun t2 k2 b2 h2 => by rw [HGB.out] at h2; cases h2; exact HLT.out))
              clear hmx hamy
              go_wp2_with fail
              go_roundw
              case rel => exact ⟨i + 1, j, _, PD, L1, Φ1, by go_num, rfl, by rw [List.length_append, List.length_singleton]; go_num, HZN, HAMY, Lib.hid (by have := HL1.out; have := HASZ.out; omega)⟩
              case measure => simp [intOf]; omega
            · as_aux_lemma =>
              have hdl : decide (s < t) = false := decide_eq_false hlt
              have hlt : t < s := by omega
              clear hst
              have HLT := Lib.hid hlt
              clear hlt
              go_wp2_with fail
              refine wp_region_order (fun w' => w' = wd.drew) [0, 1, 2, 3, 4, 5, 6, 7, 8, 9, 10, 11, 12, 13, 14] [] (by kernel_rfl) (by kernel_rfl) rfl ?_
              repeat
                apply TakesThen.cons rfl rfl
                · intro w' hw'
                  subst hw'
                  go_simp
                  with_reducible rfl
                try simp only [Act.put, List.getElem_toArray, List.getElem_cons_succ, List.getElem_cons_zero, List.setIfInBounds_toArray, List.set_cons_zero, List.set_cons_succ]
              refine TakesThen.nil (Chain.nil ?_)
              obtain ⟨we, hwd⟩ : ∃ z, z = wd.drew := ⟨_, rfl⟩
              have hdd : Dr wd we := by rw [hwd]; exact ⟨1, rfl⟩
              rw [← hwd]
              clear hwd x1 x2 x3 x4 y1 y2 y3 y4
              have HAME := Lib.hid (HAMD.out.below HCI.out hdd.below)
              have HDE := Lib.hid (HDD.out.trans hdd)
              clear hdd
              obtain ⟨⟨f1, f4⟩, f2, wx, hwx, hmx, ⟨f3, f5⟩, wy, hwy, hamy⟩ := HAME.out.store HCI.out hDN (t, (qb, k', b), 0) (HRB.out.stay HDE.out.stay) HMB.out.wf (E := []) Fine.nil (by simpa using HQB.out) (by rw [List.append_nil]; exact HAME.out.cl)
              dsimp only at hwx hwy
              obtain ⟨x1, x2, x3, x4⟩ := HRDA.out wx ((HDE.out.stay.move _).trans hmx)
              obtain ⟨y1, y2, y3, y4⟩ := HRDB.out wx ((HDE.out.stay.move _).trans hmx)
              have HAMY := Lib.hid hamy
              have HZN := Lib.hid (HZI.out.right (q := qb) HGB.out (fun s2 k2 a2 h2 => by rw [HFA.out] at h2; cases h2; exact HLT.out))
              clear hmx hamy
              go_wp2_with fail
              go_roundw
              case rel => exact ⟨i, j + 1, _, PD, L1, Φ1, rfl, by go_num, by rw [List.length_append, List.length_singleton]; go_num, HZN, HAMY, Lib.hid (HL1.out)⟩
              case measure => simp [intOf]; omega
        · as_aux_lemma =>
          obtain ⟨_, e1, Ax, cx, A2, c2, hlx⟩ := HAM.out.hp.lens
          cases e1
          obtain ⟨_, e2, Ay, cy, A4, c4, hly⟩ := HAM.out.hq.lens
          cases e2
          obtain ⟨_, x2⟩ := hlx wr (Move.refl _ _)
          obtain ⟨_, y2⟩ := hly wr (Move.refl _ _)
          clear hlx hly
          go_wp2_with fail
          go_meet
          exact ⟨i, j, D, PD, L1, Φ1, rfl, rfl, rfl, HZI, HAM, HL1, fun _ => by omega⟩
      · as_aux_lemma =>
        obtain ⟨_, e1, Ax, cx, A2, c2, hlx⟩ := HAM.out.hp.lens
        cases e1
        obtain ⟨_, e2, Ay, cy, A4, c4, hly⟩ := HAM.out.hq.lens
        cases e2
        obtain ⟨_, x2⟩ := hlx wr (Move.refl _ _)
        obtain ⟨_, y2⟩ := hly wr (Move.refl _ _)
        clear hlx hly
        go_wp2_with fail
        go_meet
        exact ⟨i, j, D, PD, L1, Φ1, rfl, rfl, rfl, HZI, HAM, HL1, fun h => absurd h hi⟩
  case rest =>
  obtain ⟨i, j, D, PD, L1, Φ1, rfl, rfl, rfl, HZI, HAM, HL0, hij⟩ := hcut
  have HIJ := Lib.hid hij
  clear hij HAM0
  have HL1 := Lib.hid (show L1 ≤ L + f.size by have := HL0.out; omega)
  clear HL0
  go_step
  go_step
  go_cut [13] from 220 to 292 (fun s13 wx => ∃ (D : List En) (PD : List (Tr × Tr)) (L1 : Nat) (Φ1 : Nat → Prop), s13 = .int .i64 (D.length : Nat) ∧ Hid (ZI wild f g f.len g.len D PD) ∧ Hid (AM S (RDs wild Ok) IU Z Φ f g ⟨ga, 0, none⟩ ⟨gb, 0, none⟩ N rb rs gm w N D L1 Φ1 wx) ∧ Hid (L1 ≤ L + f.size))
  case first =>
    obtain ⟨_, e1, Ax, cx, A2, c2, hlx⟩ := HAM.out.hp.lens
    cases e1
    obtain ⟨_, e2, Ay, cy, A4, c4, hly⟩ := HAM.out.hq.lens
    cases e2
    obtain ⟨_, x2⟩ := hlx wc (Move.refl _ _)
    obtain ⟨_, y2⟩ := hly wc (Move.refl _ _)
    clear hlx hly
    by_cases hi : i < f.len
    · as_aux_lemma =>
      have hj : j = g.len := by have := HZI.out.hj; have := HIJ.out hi; omega
      clear HIJ
      subst hj
      go_wp2_with fail
      go_loopw [22, 13] (fun pp kk wr => ∃ (i : Nat) (D : List En), pp = .int .i64 (i : Nat) ∧ kk = .int .i64 (D.length : Nat) ∧ Hid (ZI wild f g i g.len D PD) ∧ Hid (AM S (RDs wild Ok) IU Z Φ f g ⟨ga, 0, none⟩ ⟨gb, 0, none⟩ N rb rs gm w N D L1 Φ1 wr)) (fun pp _ _ => f.len - (intOf pp).toNat)
      case atStart => exact ⟨i, D, rfl, rfl, HZI, HAM⟩
      case round =>
        clear x2 y2 HZI HAM
        obtain ⟨i, D, rfl, rfl, HZI, HAM⟩ := hrel
        by_cases hi : i < f.len
        · as_aux_lemma =>
          obtain ⟨s, k, a, hfa⟩ := Tops.at_some f i hi
          obtain ⟨b1, o1, c1, b2, o2, c2, qa, hqa, hra, hrda⟩ := HAM.out.hp.read HAM.out.kp hfa
          have hDN : D.length < N := by have := HZI.out.len; have := HN.out; omega
          obtain ⟨hs1, hma⟩ := HMF.out s k a (Tops.at_list f i _ hfa)
          have HFA := Lib.hid hfa
          have HQA := Lib.hid hqa
          have HRA := Lib.hid hra
          have HRDA := Lib.hid hrda
          have HMA := Lib.hid hma
          clear hfa hqa hra hrda hma
          obtain ⟨⟨f1, f4⟩, f2, wx, hwx, hmx, ⟨f3, f5⟩, wy, hwy, hamy⟩ := HAM.out.store HCI.out hDN (s, (qa, k, a), 0) HRA.out HMA.out.wf (E := []) Fine.nil (by simpa using HQA.out) (by rw [List.append_nil]; exact HAM.out.cl)
          dsimp only at hwx hwy
          obtain ⟨x1, x2, x3, x4⟩ := HRDA.out wr (Move.refl _ _)
          have HAMY := Lib.hid (hamy.below HCI.out (below_drew' (Below.refl _ _)))
          have HZN := Lib.hid (HZI.out.left (q := qa) HFA.out (fun t2 k2 b2 h2 => by have := Tops.drop_at g _ _ _ _ h2; rw [Tops.drop_end g _ (Nat.le_refl _)] at this; cases this))
          have HMX := Lib.hid hmx
          clear hmx hamy
          go_wp2_with fail
          refine wp_region_order (fun w' => w' = wr.drew) [0, 1, 2, 3, 4, 5, 6, 7, 8] [9, 10] (by kernel_rfl) (by kernel_rfl) rfl ?_
          repeat
            apply TakesThen.cons rfl rfl
            · intro w' hw'
              subst hw'
              go_simp
              with_reducible rfl
            try simp only [Act.put, List.getElem_toArray, List.getElem_cons_succ, List.getElem_cons_zero, List.setIfInBounds_toArray, List.set_cons_zero, List.set_cons_succ]
          refine TakesThen.nil ?_
          refine Chain.step rfl rfl (fun K hK => ?_)
          go_simp
          refine hK _ _ rfl ?_
          clear hK
          try simp only [Act.put, List.getElem_toArray, List.getElem_cons_succ, List.getElem_cons_zero, List.setIfInBounds_toArray, List.set_cons_zero, List.set_cons_succ]
          refine Chain.last (by kernel_rfl) rfl rfl (fun K hK => ?_)
          go_simp
          refine hK _ _ ?_
          clear hK
          refine NoPanic.normal ?_
          obtain ⟨x1, x2, x3, x4⟩ := HRDA.out wx HMX.out
          go_wp2_with fail
          go_roundw
          case rel => exact ⟨i + 1, _, by go_num, by rw [List.length_append, List.length_singleton]; go_num, HZN, HAMY⟩
          case measure => simp [intOf]; omega
        · as_aux_lemma =>
          have hie : i = f.len := by have := HZI.out.hi; omega
          have HZE := Lib.hid (show ZI wild f g f.len g.len D PD by have := HZI.out; rwa [hie] at this)
          clear hie
          obtain ⟨_, e1, Ax, cx, A2, c2, hlx⟩ := HAM.out.hp.lens
          cases e1
          obtain ⟨_, x2⟩ := hlx wr (Move.refl _ _)
          clear hlx
          go_wp2_with fail
          go_meet
          exact ⟨D, PD, L1, Φ1, rfl, HZE, HAM, HL1⟩
    · as_aux_lemma =>
      have hj : i = f.len := by have := HZI.out.hi; omega
      clear HIJ
      subst hj
      go_wp2_with fail
      go_loopw [23, 13] (fun pp kk wr => ∃ (j : Nat) (D : List En), pp = .int .i64 (j : Nat) ∧ kk = .int .i64 (D.length : Nat) ∧ Hid (ZI wild f g f.len j D PD) ∧ Hid (AM S (RDs wild Ok) IU Z Φ f g ⟨ga, 0, none⟩ ⟨gb, 0, none⟩ N rb rs gm w N D L1 Φ1 wr)) (fun pp _ _ => g.len - (intOf pp).toNat)
      case atStart => exact ⟨j, D, rfl, rfl, HZI, HAM⟩
      case round =>
        clear x2 y2 HZI HAM
        obtain ⟨j, D, rfl, rfl, HZI, HAM⟩ := hrel
        by_cases hi : j < g.len
        · as_aux_lemma =>
          obtain ⟨s, k, a, hfa⟩ := Tops.at_some g j hi
          obtain ⟨b1, o1, c1, b2, o2, c2, qa, hqa, hra, hrda⟩ := HAM.out.hq.read HAM.out.kq hfa
          have hDN : D.length < N := by have := HZI.out.len; have := HN.out; omega
          obtain ⟨hs1, hma⟩ := HMG.out s k a (Tops.at_list g j _ hfa)
          have HFA := Lib.hid hfa
          have HQA := Lib.hid hqa
          have HRA := Lib.hid hra
          have HRDA := Lib.hid hrda
          have HMA := Lib.hid hma
          clear hfa hqa hra hrda hma
          obtain ⟨⟨f1, f4⟩, f2, wx, hwx, hmx, ⟨f3, f5⟩, wy, hwy, hamy⟩ := HAM.out.store HCI.out hDN (s, (qa, k, a), 0) HRA.out HMA.out.wf (E := []) Fine.nil (by simpa using HQA.out) (by rw [List.append_nil]; exact HAM.out.cl)
          dsimp only at hwx hwy
          obtain ⟨x1, x2, x3, x4⟩ := HRDA.out wr (Move.refl _ _)
          have HAMY := Lib.hid (hamy.below HCI.out (below_drew' (Below.refl _ _)))
          have HZN := Lib.hid (HZI.out.right (q := qa) HFA.out (fun t2 k2 b2 h2 => by have := Tops.drop_at f _ _ _ _ h2; rw [Tops.drop_end f _ (Nat.le_refl _)] at this; cases this))
          have HMX := Lib.hid hmx
          clear hmx hamy
          go_wp2_with fail
          refine wp_region_order (fun w' => w' = wr.drew) [0, 1, 2, 3, 4, 5, 6, 7, 8] [9, 10] (by kernel_rfl) (by kernel_rfl) rfl ?_
          repeat
            apply TakesThen.cons rfl rfl
            · intro w' hw'
              subst hw'
              go_simp
              with_reducible rfl
            try simp only [Act.put, List.getElem_toArray, List.getElem_cons_succ, List.getElem_cons_zero, List.setIfInBounds_toArray, List.set_cons_zero, List.set_cons_succ]
          refine TakesThen.nil ?_
          refine Chain.step rfl rfl (fun K hK => ?_)
          go_simp
          refine hK _ _ rfl ?_
          clear hK
          try simp only [Act.put, List.getElem_toArray, List.getElem_cons_succ, List.getElem_cons_zero, List.setIfInBounds_toArray, List.set_cons_zero, List.set_cons_succ]
          refine Chain.last (by kernel_rfl) rfl rfl (fun K hK => ?_)
          go_simp
          refine hK _ _ ?_
          clear hK
          refine NoPanic.normal ?_
          obtain ⟨x1, x2, x3, x4⟩ := HRDA.out wx HMX.out
          go_wp2_with fail
          go_roundw
          case rel => exact ⟨j + 1, _, by go_num, by rw [List.length_append, List.length_singleton]; go_num, HZN, HAMY⟩
          case measure => simp [intOf]; omega
        · as_aux_lemma =>
          have hie : j = g.len := by have := HZI.out.hj; omega
          have HZE := Lib.hid (show ZI wild f g f.len g.len D PD by have := HZI.out; rwa [hie] at this)
          clear hie
          obtain ⟨_, e1, Ax, cx, A2, c2, hlx⟩ := HAM.out.hq.lens
          cases e1
          obtain ⟨_, x2⟩ := hlx wr (Move.refl _ _)
          clear hlx
          go_wp2_with fail
          go_meet
          exact ⟨D, PD, L1, Φ1, rfl, HZE, HAM, HL1⟩
  case rest =>
  clear HZI HAM HL1 HIJ
  obtain ⟨D, PD, L1, Φ1, rfl, HZI, HAM, HL1⟩ := hcut
  have HDN := Lib.hid (HZI.out.done HWF.out HWG.out HMF.out HMG.out)
  have HKN := Lib.hid (show D.length ≤ N by have := HDN.out.len; have := HN.out; omega)
  have hK1 : 1 ≤ D.length := HDN.out.pos hN0
  have hDle : D.length ≤ N := HKN.out
  clear HZI
  go_step
  go_step
  go_cut [14] from 293 to 319 (fun s14 wx => s14 = .slice (some ⟨rs, 0, none⟩) D.length N ∧ Hid (AM S (RDs wild Ok) IU Z Φ f g ⟨ga, 0, none⟩ ⟨gb, 0, none⟩ N rb rs gm w D.length D L1 Φ1 wx) ∧ Hid (D.length = 1 → f.len + g.len ≤ 1))
  case first =>
    have f2 : wc.cell? ⟨gm, 0, none⟩ = some (.slice (some ⟨rb, 0, none⟩) N N) := cell_of HAM.out.hg 0
    by_cases hk : D.length < N
    · by_cases hk1 : D.length = 1
      · as_aux_lemma =>
        obtain ⟨x, hx⟩ : ∃ x, D = [x] := List.length_eq_one_iff.1 hk1
        have HX := Lib.hid hx
        have hki : ((D.length : Nat) : Int) = 1 := by omega
        have hkn : (1 : Int) < N := by omega
        have hNp : 0 < N := by omega
        have hNi : (0 : Int) < N := by omega
        have q1 : wc.cell? ⟨rb, 0, none⟩ = some (.pointer (some x.2.1.1)) := by rw [cell_of HAM.out.hb 0]; rw [hx]; exact pRow_at (by simp [ptrs, adr, kns])
        have q2 : wc.cell? ⟨rs, 0, none⟩ = some (.int .i64 x.1) := by rw [cell_of HAM.out.hs 0]; rw [hx]; exact sRow_at (by simp [ints, stsD])
        have hx1 : x.1 ≤ 1000 := by
          have h0 := (HDN.out.wf (by omega) (by omega)).2
          rw [hx] at h0
          exact h0.1.2
        have HAMD := Lib.hid (HAM.out.below HCI.out (below_drew' (Below.refl _ _)))
        have HCR := Lib.hid (create_any Z x.2.1.1 x.2.1.2.1 x.2.1.2.2 x.1 wc.drew (HZ.out.ext HAMD.out.st.1) hx1 ((HAMD.out.dok x (by rw [hx]; simp)).1.move (thin Z rb rs _)))
        have HSG := Lib.hid (show mgA wild f g = (1, appT D .nil) from HDN.out.single hk1 (by have := HN.out; omega))
        clear hx hk1 hk hK1 hDle hx1
        go_wp2_with fail
        refine wp_region_order (fun w' => Below wc.heap.size wc w') [0, 1, 2, 3, 4, 5] [6, 7] (by kernel_rfl) (by kernel_rfl) (below_drew' (Below.refl _ _)) ?_
        repeat
          apply TakesThen.cons rfl rfl
          · intro w' hw'
            have y0 := cell_bel f2 hw'
            have y1 := cell_bel q1 hw'
            have y2 := cell_bel q2 hw'
            go_simp
            with_reducible rfl
          try simp only [Act.put, List.getElem_toArray, List.getElem_cons_succ, List.getElem_cons_zero, List.setIfInBounds_toArray, List.set_cons_zero, List.set_cons_succ]
        refine TakesThen.nil ?_
        refine Chain.step rfl rfl (fun K hK => ?_)
        go_simp
        refine HCR.out.mono ?_
        rintro e w5 ⟨r, rfl, g1, g2, g3, g4⟩
        have HMO := Lib.hid (AM.one (t := mgA wild f g) HCI.out (show AM S (RDs wild Ok) IU Z Φ f g ⟨ga, 0, none⟩ ⟨gb, 0, none⟩ N rb rs gm w N [x] L1 Φ1 wc.drew by have := HAMD.out; rwa [HX.out] at this) ⟨r, rfl, g1, g2, g3, g4⟩ (by rw [HSG.out, HX.out]) (HRED.out (by rw [HSG.out]; simp) (by rw [HSG.out]; simp)))
        have HST5 := Lib.hid (Stay.of_below g4)
        refine hK _ _ (below_trans (below_drew' (Below.refl _ _)) g4) ?_
        clear hK g1 g2 g3 g4 HCR
        try simp only [Act.put, List.getElem_toArray, List.getElem_cons_succ, List.getElem_cons_zero, List.setIfInBounds_toArray, List.set_cons_zero, List.set_cons_succ]
        refine Chain.last (by kernel_rfl) rfl rfl (fun K hK => ?_)
        go_simp
        refine hK _ _ ?_
        clear hK
        refine NoPanic.normal ?_
        go_wp2_with fail
        have HFIN := Lib.hid (MO.mono HMO.out HCI.out (show L1 ≤ L + f.size + 1 by have := HL1.out; omega)).out
        go_ret
        exact HFIN.out
      · as_aux_lemma =>
        obtain ⟨f1, _, ham⟩ := HAM.out.trim HCI.out D.length
        have HT := Lib.hid ham
        have HK1 := Lib.hid hk1
        clear ham
        go_wp2_with fail
        go_meet
        exact ⟨rfl, HT, Lib.hid (fun h => absurd h HK1.out)⟩
    · as_aux_lemma =>
      have hkn : D.length = N := by omega
      have HKE := Lib.hid hkn
      clear hkn
      go_wp2_with fail
      go_meet
      exact ⟨by rw [HKE.out], Lib.hid (by rw [HKE.out]; exact HAM.out), Lib.hid (fun h => by have := HKE.out; have := HN.out; omega)⟩
  case rest =>
  as_aux_lemma =>
  clear HAM
  obtain ⟨rfl, HAM, HK2⟩ := hcut
  have f2 : wc.cell? ⟨gm, 0, none⟩ = some (.slice (some ⟨rb, 0, none⟩) D.length N) := cell_of HAM.out.hg 0
  have HARR := Lib.hid (HDN.out.array HK2.out)
  have HNEW := Lib.hid (NewArrayCN_any (some ⟨rb, 0, none⟩) (some ⟨rs, 0, none⟩) N N D.length (appT D .nil) (adr (kns D)) wc (tops_len D) (HAM.out.prow (fun h => h)) (HAM.out.srow (fun h => h)) (DOk.subs D (HAM.out.dok.move (Z' := NoX) (fun _ _ _ _ _ hj => ⟨hj, fun h => h⟩))) (by omega))
  have HWFA := Lib.hid (HDN.out.wf (by omega) hK1)
  go_wp2_with fail
  refine HNEW.out.mono ?_
  rintro e w5 ⟨rfl, hw5⟩
  obtain ⟨ham5, hrep5, hM5⟩ := HAM.out.made HCI.out hw5
  have HAM5 := Lib.hid ham5
  have HREP5 := Lib.hid hrep5
  have HM5 := Lib.hid hM5
  obtain ⟨gM, hgM⟩ : ∃ z, z = wc.heap.size := ⟨_, rfl⟩
  rw [← hgM] at HREP5 HM5 ⊢
  have HGM := Lib.hid (show ¬ Z gM from fun hz => by have := HZ.out _ hz; have := HAM.out.st.1; omega)
  have HEQ1 := Lib.hid (equalsK_any 2 2 (appT D .nil) f ⟨gM, 0, none⟩ ⟨ga, 0, none⟩ w5 ⟨HREP5.out, .inl ⟨HWFA.out, by decide⟩⟩ HAM5.out.hp.ko)
  clear hw5 ham5 hrep5 hM5 hgM HNEW f2
  go_wp2_with fail
  refine HEQ1.out.mono ?_
  rintro e w6 ⟨rfl, hd6⟩
  have HAM6 := Lib.hid (HAM5.out.below HCI.out hd6.below)
  have HREP6 := Lib.hid (HREP5.out.stay hd6.stay)
  have hm6 := HM5.out
  rw [← hd6.heap] at hm6
  have HM6 := Lib.hid hm6
  clear hm6
  clear hd6 HEQ1
  by_cases h1 : 2 = 2 ∧ appT D .nil = f
  · as_aux_lemma =>
    rw [eqB_true h1]
    have HMO := Lib.hid (AM.same (t := mgA wild f g) HCI.out HAM6.out (r := ⟨ga, 0, none⟩) (by rw [HARR.out, h1.2]; exact HAM6.out.hp.1) (HSP.out (by rw [HARR.out, h1.2])))
    clear h1
    go_wp2_with fail
    have HFIN := Lib.hid (MO.mono HMO.out HCI.out (show L1 ≤ L + f.size + 1 by have := HL1.out; omega)).out
    go_ret
    exact HFIN.out
  rw [eqB_false h1]
  have HN1 := Lib.hid h1
  clear h1
  have HEQ2 := Lib.hid (equalsK_any 2 2 (appT D .nil) g ⟨gM, 0, none⟩ ⟨gb, 0, none⟩ w6 ⟨HREP6.out, .inl ⟨HWFA.out, by decide⟩⟩ HAM6.out.hq.ko)
  go_wp2_with fail
  refine HEQ2.out.mono ?_
  rintro e w7 ⟨rfl, hd7⟩
  have HAM7 := Lib.hid (HAM6.out.below HCI.out hd7.below)
  have hm7 := HM6.out
  rw [← hd7.heap] at hm7
  have HM7 := Lib.hid hm7
  clear hm7
  clear hd7 HEQ2
  by_cases h2 : 2 = 2 ∧ appT D .nil = g
  · as_aux_lemma =>
    rw [eqB_true h2]
    have HMO := Lib.hid (AM.same (t := mgA wild f g) HCI.out HAM7.out (r := ⟨gb, 0, none⟩) (by rw [HARR.out, h2.2]; exact HAM7.out.hq.1) (HSQ.out (by rw [HARR.out, h2.2])))
    clear h2
    go_wp2_with fail
    have HFIN := Lib.hid (MO.mono HMO.out HCI.out (show L1 ≤ L + f.size + 1 by have := HL1.out; omega)).out
    go_ret
    exact HFIN.out
  rw [eqB_false h2]
  have HN2 := Lib.hid h2
  clear h2
  obtain ⟨hown, hgm, hall⟩ := HAM7.out.own HKN.out (by omega)
  have HCO := Lib.hid (combine_any w.heap.size gm rb N (kns D) w7 hgm hown hall (by have : (kns D).length = D.length := by simp [kns]
                                                                                    omega))
  clear hown hgm hall
  go_wp2_with fail
  refine HCO.out.mono ?_
  rintro e w8 ⟨rfl, hown, hgr⟩
  have HMO := Lib.hid (AM.fin (t := mgA wild f g) HCI.out HAM7.out HM7.out HGM.out hown hgr HARR.out (HRED.out (by rw [HARR.out]; intro e; rw [Prod.mk.injEq] at e; exact HN1.out (by simpa using e.2)) (by rw [HARR.out]; intro e; rw [Prod.mk.injEq] at e; exact HN2.out (by simpa using e.2))))
  have HMV := Lib.hid (show Move (Zr Z rb rs) Z w7 w8 from (move_rows ((Chg.of_grown hgr).mono (fun j hj => .inl (Option.some.inj hj))) HAM7.out.gmTy).trans (thin Z rb rs w8))
  clear hown hgr HCO
  go_wp2_with fail
  have HFIN := Lib.hid (MO.mono HMO.out HCI.out (show L1 ≤ L + f.size + 1 by have := HL1.out; omega)).out
  go_ret
  exact HFIN.out
end Go.Proofs.Ytcbabfndfikejaa
