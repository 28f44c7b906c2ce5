/- The walk of mergeSingletons (without a cache). Condition: the choices lie in memory and are well made. -/
import Derived.Test.YtcbabfndfikejaaZ12
namespace Go.Proofs.Ytcbabfndfikejaa
open Go.RowKit
set_option linter.unusedSimpArgs false
set_option maxRecDepth 40000 in
set_option maxHeartbeats 8000000 in
theorem fsU_any (wild : Bool) (Ok : Tr → Tr → Prop) (hOK : OkM wild Ok) (S : List Addr) (n : Nat) (IH : MrgTo wild Ok (.pointer none) IU S n) (p q : Addr) (s t : Int) (k k' : Nat) (a b : Tops) (w : World) (L : Nat) (Φ Z : Nat → Prop) (hZ : OldX Z w) (hsz : a.size < n) (hi : IU Z L Φ w)
    (hp : Rep w Z p 1 (.cons s k a .nil)) (hq : Rep w Z q 1 (.cons t k' b .nil)) (mx : Made 64 (1, .cons s k a .nil)) (my : Made 64 (1, .cons t k' b .nil)) (hok : Ok (1, .cons s k a .nil) (1, .cons t k' b .nil)) (hpS : p ∈ S) (hqS : q ∈ S) (hcl : ClX w Z S) (hL : L + a.size + 2 ≤ 1000000000) (hne : (Tops.cons s k a .nil) ≠ .cons t k' b .nil) :
    Calls Try.prog 86 #[.pointer (some p), .pointer (some q), .bool wild, (.pointer none)] w (MOut S (mgA wild (.cons s k a .nil) (.cons t k' b .nil)) (RDs wild Ok) (IU) Z (L + a.size + 2) Φ w) := by
  have HZ := Lib.hid hZ
  have HCI := Lib.hid (cacheU)
  have hks : s ≤ 1000 := (mx.wf.2.1).2
  have hkt : t ≤ 1000 := (my.wf.2.1).2
  have HWA := Lib.hid (show Wf k a from ⟨mx.wf.2.2.1, mx.wf.2.2.2.1⟩)
  have HWB := Lib.hid (show Wf k' b from ⟨my.wf.2.2.1, my.wf.2.2.2.1⟩)
  have HMA := Lib.hid (mx.at_ (s := s) (k := k) (a := a) (List.mem_cons_self ..))
  have HMB := Lib.hid (my.at_ (s := t) (k := k') (a := b) (List.mem_cons_self ..))
  have HWX := Lib.hid mx.wf
  have HWY := Lib.hid my.wf
  have HI := Lib.hid hi
  have HP := Lib.hid hp
  have HQ := Lib.hid hq
  have HCL := Lib.hid hcl
  have HPS := Lib.hid hpS
  have HQS := Lib.hid hqS
  have HIH := Lib.hid IH
  have HNE := Lib.hid hne
  have HRED := Lib.hid (show mgA wild (.cons s k a .nil) (.cons t k' b .nil) ≠ (1, .cons s k a .nil) → mgA wild (.cons s k a .nil) (.cons t k' b .nil) ≠ (1, .cons t k' b .nil) → RDs wild Ok (mgA wild (.cons s k a .nil) (.cons t k' b .nil)) from fun h1 h2 =>
    ⟨_, _, hok, by rw [mg_eq wild mx.wf my.wf, if_neg (fun e => hne (by cases e; rfl)), if_neg (by simp), if_neg (by simp)], h1, h2⟩)
  have HOKK := Lib.hid (fun e : s = t => hOK.kid hok (s := s) (k := k) (a := a) (k' := k') (b := b) (List.mem_cons_self ..) (by rw [e]; exact List.mem_cons_self ..))
  have HRT := Lib.hid (fun w' => root_any wild p q (.cons s k a .nil) (.cons t k' b .nil) w')
  obtain ⟨g, qs, hpg, hSh, hsub⟩ := hp.kids
  obtain ⟨g', qs', hpg', hSh', hsub'⟩ := hq.kids
  obtain ⟨_, s0, p1, k0, a0, e1, e2, hrp, hg⟩ := hp.cells1
  obtain ⟨_, t0, q1, k0', b0, e3, e4, hrq, hg'⟩ := hq.cells1
  cases e2
  cases e4
  subst hpg
  subst hpg'
  cases e1
  cases e3
  have c2 : w.cell? ⟨g, 2, none⟩ = some (.pointer (some p1)) := cell_of hg 2
  have c3 : w.cell? ⟨g, 3, none⟩ = some (.int .i64 s) := cell_of hg 3
  have d2 : w.cell? ⟨g', 2, none⟩ = some (.pointer (some q1)) := cell_of hg' 2
  have d3 : w.cell? ⟨g', 3, none⟩ = some (.int .i64 t) := cell_of hg' 3
  have kid : ∀ {g : Nat} {s : Int} {k : Nat} {a : Tops} {p1 : Addr} {h : Int}, w.heap[g]? = some (.cells #[.int .i64 h, .int .i64 1, .pointer (some p1), .int .i64 s, .slice none 0 0, .slice none 0 0] 97 (0, 0)) → (⟨g, 0, none⟩ : Addr) ∈ S → p1 ∈ S := by
    intro g s k a p1 h hg hm
    obtain ⟨g0, k0, h0, ss, rs, e, hsh, hk⟩ := hcl _ hm
    cases e
    obtain ⟨_, _, H⟩ := hsh
    rcases H with ⟨_, _, h3⟩ | ⟨_, s1, q1, h2, h3, h4⟩ | ⟨_, _, _, _, _, h2, _⟩
    · rw [hg] at h3; cases h3
    · rw [hg] at h4; cases h4
      exact hk _ (by rw [h3]; simp)
    · rw [hg] at h2; cases h2
  have HP1S := Lib.hid (kid (k := k) (a := a) hg hpS)
  have HQ1S := Lib.hid (kid (k := k') (a := b) hg' hqS)
  have HRP := Lib.hid hrp
  have HRQ := Lib.hid hrq
  have HG := Lib.hid hg
  have HG' := Lib.hid hg'
  -- the cells of both in any later world
  have HCC := Lib.hid (show ∀ w', Stay w w' → w'.cell? ⟨g, 2, none⟩ = some (.pointer (some p1)) ∧ w'.cell? ⟨g, 3, none⟩ = some (.int .i64 s) ∧ w'.cell? ⟨g', 2, none⟩ = some (.pointer (some q1)) ∧ w'.cell? ⟨g', 3, none⟩ = some (.int .i64 t) from fun w' hs => by
    have h1 := hs.2 _ _ _ (.inl rfl) hg
    have h2 := hs.2 _ _ _ (.inl rfl) hg'
    exact ⟨cell_of h1 2, cell_of h1 3, cell_of h2 2, cell_of h2 3⟩)
  clear hp hq hcl hpS hqS IH hne hSh hSh' hsub hsub' hg hg' hrp hrq mx my hi kid hZ hok
  go_enter Try.func86, Try.ntmps86
  have HD := Lib.hid (Dr.refl w)
  have HRO := Lib.hid (HRT.out w HP.out.noX HQ.out.noX)
  clear HRT
  go_wp2_with fail
  refine HRO.out.mono ?_
  rintro e w' ⟨rfl, rfl⟩
  clear HRO
  have hnn : ∀ w : World, (binOp .neq 72 (.pointer none) (.pointer none)).run Try.prog w = .ok (.bool false) w := fun w => by simp [go_sem, Try.underlying72]
  have hnq : ∀ (w : World) (q : Addr), (binOp .neq 72 (.pointer (some q)) (.pointer none)).run Try.prog w = .ok (.bool true) w := fun w q => by simp [go_sem, Try.underlying72]
  have HK0 := Lib.hid (HCC.out w HD.out.stay)
  have HW0 := Lib.hid (show Dr w w.drew from HD.out.drew)
  have HIW := Lib.hid (HCI.out.below HI.out HW0.out.below)
  by_cases hst : s = t
  · have hb : (s == t) = true := by rw [beq_iff_eq]; exact hst
    have HST := Lib.hid hst
    go_wp2_with fail
    refine wp_region_order (fun w' => w' = w.drew) [0, 1, 2, 3, 4, 5, 6, 7, 8] [] (by kernel_rfl) (by kernel_rfl) rfl ?_
    repeat
      apply TakesThen.cons rfl rfl
      · intro w' hw'
        subst hw'
        obtain ⟨x0, x1, x2, x3⟩ := HK0.out
        go_simp
        with_reducible rfl
      try simp only [Act.put, List.getElem_toArray, List.getElem_cons_succ, List.getElem_cons_zero, List.setIfInBounds_toArray, List.set_cons_zero, List.set_cons_succ]
    refine TakesThen.nil (Chain.nil ?_)
    clear hst
    go_wp2_with fail
    have HWD := Lib.hid (show Dr w w.drew.drew from HD.out.drew.drew)
    have HREC := Lib.hid (HIH.out (k, a) (k', b) p1 q1 w.drew.drew L Φ Z (HZ.out.ext HWD.out.stay.1) hsz (HCI.out.below HI.out HWD.out.below) (HRP.out.stay HWD.out.stay) (HRQ.out.stay HWD.out.stay) HMA.out HMB.out (HOKK.out HST.out) HP1S.out HQ1S.out (HCL.out.stay HWD.out.stay) (by simp only; omega))
    refine wp_region_order (fun w' => Stay w w') [0, 1, 2, 3, 4, 5, 6, 7, 8, 9] [10, 11] (by kernel_rfl) (by kernel_rfl) HWD.out.stay ?_
    repeat
      apply TakesThen.cons rfl rfl
      · intro w' hw'
        obtain ⟨x0, x1, x2, x3⟩ := HCC.out w' hw'
        go_simp
        with_reducible rfl
      try simp only [Act.put, List.getElem_toArray, List.getElem_cons_succ, List.getElem_cons_zero, List.setIfInBounds_toArray, List.set_cons_zero, List.set_cons_succ]
    refine TakesThen.nil ?_
    refine Chain.step rfl rfl (fun K hK => ?_)
    go_simp
    refine HREC.out.mono ?_
    rintro e w5 ⟨m, E, Φ1, rfl, hE, hm, hclE, hrm, hi1, hΦ1, hc1, hs1⟩
    have hmade : Made 128 (mg wild (k, a) (k', b)) := mrg_made wild (by decide) _ _ _ HMA.out HMB.out
    have hsame := mgA_same wild s k k' a b
    generalize hmt : mg wild (k, a) (k', b) = mt at *
    obtain ⟨km, fm⟩ := mt
    simp only at hrm hsame
    have HS5 := Lib.hid (HWD.out.stay.trans hs1)
    have HC5 := Lib.hid (show Chg Φ w w5 from (Chg.of_below (X := Φ) HWD.out.below).trans hc1 (fun _ _ h => h))
    have HF5 := Lib.hid (show ∀ j, Φ1 j → Φ j ∨ w.heap.size ≤ j from fun j hj => by have := hΦ1 j hj; rw [HWD.out.heap] at this; exact this)
    have HI5 := Lib.hid hi1
    have HE := Lib.hid hE
    have HM := Lib.hid hm
    have HCE := Lib.hid hclE
    have HRM := Lib.hid hrm
    have HMW := Lib.hid hmade.wf
    have HSAME := Lib.hid hsame
    clear hE hm hclE hrm hi1 hΦ1 hc1 hs1 hmade hsame HREC hmt
    refine hK _ _ HS5.out ?_
    clear hK
    try simp only [Act.put, List.getElem_toArray, List.getElem_cons_succ, List.getElem_cons_zero, List.setIfInBounds_toArray, List.set_cons_zero, List.set_cons_succ]
    refine Chain.last (by kernel_rfl) rfl rfl (fun K hK => ?_)
    go_simp
    refine hK _ _ ?_
    clear hK
    refine NoPanic.normal ?_
    obtain ⟨y0, y1, y2, y3⟩ := HCC.out w5 HS5.out
    have HEQ1 := Lib.hid (equals_any fm km a k m p1 w5 HRM.out.noX (HRP.out.noX.stay HS5.out) HMW.out HWA.out)
    go_wp2_with fail
    refine HEQ1.out.mono ?_
    rintro e w6 ⟨rfl, hd6⟩
    have HD6 := Lib.hid hd6
    clear hd6 HEQ1
    by_cases h1 : km = k ∧ fm = a
    · obtain ⟨rfl, rfl⟩ := h1
      rw [eqB_true ⟨rfl, rfl⟩]
      have HFIN := Lib.hid (((MO.old (t := mgA wild (.cons s km fm .nil) (.cons t k' b .nil)) (RD := RDs wild Ok) (r := ⟨g, 0, none⟩) HPS.out (HCL.out.stay (HS5.out.trans HD6.out.stay)) (by rw [← HST.out, HSAME.out]; exact HP.out.stay (HS5.out.trans HD6.out.stay)) (HCI.out.below HI5.out HD6.out.below) HF5.out (HC5.out.trans (Chg.of_below (X := Φ) HD6.out.below) (fun _ _ h => h)) (HS5.out.trans HD6.out.stay)).mono HCI.out (show L + fm.size + 1 ≤ L + fm.size + 2 by omega)).out)
      go_wp2_with fail
      go_ret
      exact HFIN.out
    rw [eqB_false h1]
    have HN1 := Lib.hid h1
    clear h1
    have y4 := cell_bel y2 HD6.out.below
    have HEQ2 := Lib.hid (equals_any fm km b k' m q1 w6 (HRM.out.noX.stay HD6.out.stay) (HRQ.out.noX.stay (HS5.out.trans HD6.out.stay)) HMW.out HWB.out)
    go_wp2_with fail
    refine HEQ2.out.mono ?_
    rintro e w7 ⟨rfl, hd7⟩
    have HD7 := Lib.hid (HD6.out.trans hd7)
    clear hd7 HEQ2
    by_cases h2 : km = k' ∧ fm = b
    · obtain ⟨rfl, rfl⟩ := h2
      rw [eqB_true ⟨rfl, rfl⟩]
      have HFIN := Lib.hid (((MO.old (t := mgA wild (.cons s k a .nil) (.cons t km fm .nil)) (RD := RDs wild Ok) (r := ⟨g', 0, none⟩) HQS.out (HCL.out.stay (HS5.out.trans HD7.out.stay)) (by have := HQ.out.stay (HS5.out.trans HD7.out.stay); rw [← HST.out] at this ⊢; rw [HSAME.out]; exact this) (HCI.out.below HI5.out HD7.out.below) HF5.out (HC5.out.trans (Chg.of_below (X := Φ) HD7.out.below) (fun _ _ h => h)) (HS5.out.trans HD7.out.stay)).mono HCI.out (show L + a.size + 1 ≤ L + a.size + 2 by omega)).out)
      go_wp2_with fail
      go_ret
      exact HFIN.out
    rw [eqB_false h2]
    have HN2 := Lib.hid h2
    clear h2
    have y5 := cell_bel y1 HD7.out.below
    have HCR := Lib.hid (create_any Z m km fm s w7 (HZ.out.ext (HS5.out.trans HD7.out.stay).1) hks (HRM.out.stay HD7.out.stay))
    go_wp2_with fail
    refine HCR.out.mono ?_
    rintro e w8 ⟨r, rfl, hrr, hrk, _, hb8⟩
    have HMO := Lib.hid (MO.new (S := S) (t := mgA wild (.cons s k a .nil) (.cons t k' b .nil)) (RD := RDs wild Ok) (w := w) (r := r) HCI.out (HE.out.stay HD7.out.stay) (HCE.out.stay HD7.out.stay) (HCI.out.below HI5.out HD7.out.below) HF5.out (HC5.out.trans (Chg.of_below (X := Φ) HD7.out.below) (fun _ _ h => h)) (HS5.out.trans HD7.out.stay) hb8 ⟨_, hrk, fun x hx => by rw [List.mem_singleton.1 hx]; exact HM.out⟩ (by rw [← HST.out, HSAME.out]; exact hrr)
      (HRED.out (by rw [← HST.out, HSAME.out]; intro e; cases e; exact HN1.out ⟨rfl, rfl⟩) (by rw [← HST.out, HSAME.out]; intro e; cases e; exact HN2.out ⟨rfl, rfl⟩)) (by rw [← HST.out, HSAME.out]; exact Shr.one1 hrk))
    have HS8 := Lib.hid ((HS5.out.trans HD7.out.stay).trans (Stay.of_below hb8))
    clear hrr hrk hb8 HCR
    have HFIN := Lib.hid ((HMO.out.mono HCI.out (show L + a.size + 1 ≤ L + a.size + 2 by omega)).out)
    go_wp2_with fail
    go_ret
    exact HFIN.out
  · have hb : (s == t) = false := by rw [beq_eq_false_iff_ne]; exact hst
    have HST := Lib.hid hst
    go_wp2_with fail
    refine wp_region_order (fun w' => w' = w.drew) [0, 1, 2, 3, 4, 5, 6, 7, 8] [] (by kernel_rfl) (by kernel_rfl) rfl ?_
    repeat
      apply TakesThen.cons rfl rfl
      · intro w' hw'
        subst hw'
        obtain ⟨x0, x1, x2, x3⟩ := HK0.out
        go_simp
        with_reducible rfl
      try simp only [Act.put, List.getElem_toArray, List.getElem_cons_succ, List.getElem_cons_zero, List.setIfInBounds_toArray, List.set_cons_zero, List.set_cons_succ]
    refine TakesThen.nil (Chain.nil ?_)
    clear hst
    have HWD := Lib.hid (show Dr w w.drew.drew from HD.out.drew.drew)
    have HEQ0 := Lib.hid (equals_any (.cons s k a .nil) 1 (.cons t k' b .nil) 1 ⟨g, 0, none⟩ ⟨g', 0, none⟩ w.drew.drew (HP.out.noX.stay HWD.out.stay) (HQ.out.noX.stay HWD.out.stay) HWX.out HWY.out)
    rw [eqB_false (fun e => HNE.out e.2)] at HEQ0
    go_wp2_with fail
    refine wp_region_sch (fun w' => Dr w w') (.take 0 <| .take 1 <| .take 2 <| .step 3 <| .take 4 <| .take 5 <| .take 6 <| .take 7 <| .take 8 <| .take 9 <| .take 10 <| .take 11 <| .take 12 <| .take 13 <| .take 14 <| .take 15 <| .take 16 <| .take 17 <| .take 18 <| .take 19 <| .step 20 <| .take 21 <| .take 22 .done) (by kernel_rfl) (by kernel_rfl) HWD.out ?_
    repeat
      apply Along.take rfl rfl
      · intro w' hw'
        go_simp
        with_reducible rfl
      try simp only [Act.put, List.getElem_toArray, List.getElem_cons_succ, List.getElem_cons_zero, List.setIfInBounds_toArray, List.set_cons_zero, List.set_cons_succ]
    refine Along.step rfl rfl (fun K hK => ?_)
    go_simp
    refine HEQ0.out.mono ?_
    rintro e w5 ⟨rfl, hd5⟩
    have HD5 := Lib.hid (HWD.out.trans hd5)
    clear hd5 HEQ0
    refine hK _ _ HD5.out ?_
    clear hK
    try simp only [Act.put, List.getElem_toArray, List.getElem_cons_succ, List.getElem_cons_zero, List.setIfInBounds_toArray, List.set_cons_zero, List.set_cons_succ]
    repeat
      apply Along.take rfl
      · go_simp; done
      · intro w' hw'
        obtain ⟨x0, x1, x2, x3⟩ := HCC.out w' hw'.stay
        have hnq := hnq w' p1
        go_simp
        with_reducible rfl
      try simp only [Act.put, List.getElem_toArray, List.getElem_cons_succ, List.getElem_cons_zero, List.setIfInBounds_toArray, List.set_cons_zero, List.set_cons_succ]
    have HEQ1 := Lib.hid (equals_any a k b k' p1 q1 w5 (HRP.out.noX.stay HD5.out.stay) (HRQ.out.noX.stay HD5.out.stay) HWA.out HWB.out)
    refine Along.step rfl ?_ (fun K hK => ?_)
    · go_simp; done
    go_simp
    refine HEQ1.out.mono ?_
    rintro e w6 ⟨rfl, hd6⟩
    have HD6 := Lib.hid (HD5.out.trans hd6)
    clear hd6 HEQ1
    refine hK _ _ HD6.out ?_
    clear hK
    try simp only [Act.put, List.getElem_toArray, List.getElem_cons_succ, List.getElem_cons_zero, List.setIfInBounds_toArray, List.set_cons_zero, List.set_cons_succ]
    repeat
      apply Along.take rfl
      · go_simp; done
      · intro w' hw'
        go_simp
        with_reducible rfl
      try simp only [Act.put, List.getElem_toArray, List.getElem_cons_succ, List.getElem_cons_zero, List.setIfInBounds_toArray, List.set_cons_zero, List.set_cons_succ]
    refine Along.done ?_
    obtain ⟨z0, z1, z2, z3⟩ := HCC.out w6 HD6.out.stay
    by_cases hab : k = k' ∧ a = b
    · rw [eqB_true hab]
      go_wp2_with fail
      obtain ⟨hk1, hk2⟩ := hab
      subst hk1
      subst hk2
      have HBA0 := Lib.hid HD6.out.below
      refine wp_region_order (fun w' => Below w6.heap.size w6 w') [0, 1, 2, 3, 4, 5, 6, 7] [8, 9] (by kernel_rfl) (by kernel_rfl) (below_drew' (Below.refl _ _)) ?_
      repeat
        apply TakesThen.cons rfl rfl
        · intro w' hw'
          have x1 := cell_bel z1 hw'
          have x3 := cell_bel z3 hw'
          go_simp
          with_reducible rfl
        try simp only [Act.put, List.getElem_toArray, List.getElem_cons_succ, List.getElem_cons_zero, List.setIfInBounds_toArray, List.set_cons_zero, List.set_cons_succ]
      refine TakesThen.nil ?_
      refine Chain.step rfl rfl (fun K hK => ?_)
      go_simp
      obtain ⟨w7, hw⟩ : ∃ z, z = (w6.alloc (Obj.cells #[Value.int IntKind.i64 s, Value.int IntKind.i64 t] 3)).drew := ⟨_, rfl⟩
      have hb_w7 : Below w6.heap.size w6 w7 := by rw [hw]; exact below_drew' ((Below.refl _ _).alloc (Nat.le_refl _) _)
      have hc_w7 : w7.heap[w6.heap.size]? = some (Obj.cells #[Value.int IntKind.i64 s, Value.int IntKind.i64 t] 3 (0, 0)) := by rw [hw]; exact heap_new' rfl
      rw [← hw]
      clear hw
      refine hK _ _ hb_w7 ?_
      clear hK
      try simp only [Act.put, List.getElem_toArray, List.getElem_cons_succ, List.getElem_cons_zero, List.setIfInBounds_toArray, List.set_cons_zero, List.set_cons_succ]
      refine Chain.last (by kernel_rfl) rfl rfl (fun K hK => ?_)
      go_simp
      refine hK _ _ ?_
      clear hK
      refine NoPanic.normal ?_
      have HB7 := Lib.hid (below_trans HBA0.out hb_w7)
      have HC7 := Lib.hid hc_w7
      have HB67 := Lib.hid hb_w7
      obtain ⟨y0, y1, y2, y3⟩ := HCC.out w7 (Stay.of_below HB7.out)
      clear hb_w7 hc_w7 z0 z1 z2 z3
      by_cases hgt : t < s
      · have HGT := Lib.hid hgt
        go_wp2_with fail
        refine wp_region_order (fun w' => w' = w7.drew) [0, 1, 2, 3, 4, 5, 6, 7, 8] [] (by kernel_rfl) (by kernel_rfl) rfl ?_
        repeat
          apply TakesThen.cons rfl rfl
          · intro w' hw'
            subst hw'
            go_simp
            with_reducible rfl
          try simp only [Act.put, List.getElem_toArray, List.getElem_cons_succ, List.getElem_cons_zero, List.setIfInBounds_toArray, List.set_cons_zero, List.set_cons_succ]
        refine TakesThen.nil (Chain.nil ?_)
        obtain ⟨w8, hw⟩ : ∃ z, z = w7.drew := ⟨_, rfl⟩
        have hd8 : Dr w7 w8 := by rw [hw]; exact ⟨1, rfl⟩
        have hs8 : w8.heap.size = w7.heap.size := by rw [hd8.heap]
        rw [← hw]
        clear hw
        have hc8 : w8.heap[w6.heap.size]? = some (Obj.cells #[Value.int IntKind.i64 s, Value.int IntKind.i64 t] 3 (0, 0)) := by rw [hd8.heap]; exact HC7.out
        have HB8 := Lib.hid (below_trans HB7.out hd8.below)
        have HB68 := Lib.hid (below_trans HB67.out hd8.below)
        obtain ⟨v0, v1, v2, v3⟩ := HCC.out w8 (Stay.of_below HB8.out)
        have f0 : w8.cell? ⟨w6.heap.size, 0, none⟩ = some (.int .i64 s) := cell_of hc8 0
        have f1 : w8.frozen? ⟨w6.heap.size, 0, none⟩ = false := by simp [World.frozen?, hc8]
        obtain ⟨w9, hw9⟩ : ∃ z, z = w8.setCell ⟨w6.heap.size, 0, none⟩ (.int .i64 t) := ⟨_, rfl⟩
        have hc9 : w9.heap[w6.heap.size]? = some (Obj.cells #[Value.int IntKind.i64 t, Value.int IntKind.i64 t] 3 (0, 0)) := by rw [hw9, heap_setCell_same w8 w6.heap.size 0 _ _ _ hc8]; rfl
        have hb89 : Below w6.heap.size w6 w9 := by
          rw [hw9]
          exact (HB68.out).setCell (Nat.le_refl _) _
        have HB9 := Lib.hid (below_trans HBA0.out hb89)
        obtain ⟨n0, n1, n2, n3⟩ := HCC.out w9 (Stay.of_below HB9.out)
        have f2 : w9.cell? ⟨w6.heap.size, 1, none⟩ = some (.int .i64 t) := cell_of hc9 1
        have f3 : w9.frozen? ⟨w6.heap.size, 1, none⟩ = false := by simp [World.frozen?, hc9]
        have hwe : w8.setCell ⟨w6.heap.size, 0, none⟩ (.int .i64 t) = w9 := hw9.symm
        obtain ⟨wt, hwt⟩ : ∃ z, z = w9.setCell ⟨w6.heap.size, 1, none⟩ (.int .i64 s) := ⟨_, rfl⟩
        have hct : wt.heap[w6.heap.size]? = some (Obj.cells #[Value.int IntKind.i64 t, Value.int IntKind.i64 s] 3 (0, 0)) := by rw [hwt, heap_setCell_same w9 w6.heap.size 1 _ _ _ hc9]; rfl
        have hbt : Below w6.heap.size w6 wt := by rw [hwt]; exact hb89.setCell (Nat.le_refl _) _
        have hwe2 : w9.setCell ⟨w6.heap.size, 1, none⟩ (.int .i64 s) = wt := hwt.symm
        have HBT := Lib.hid hbt
        have HCT := Lib.hid hct
        clear hw9 hwt hc8 hc9 hb89 hct hbt hd8 hs8
        go_wp2_with fail
        obtain ⟨wa, hwa⟩ : ∃ z, z = wt.alloc (Obj.cells #[Value.pointer (some p1), Value.pointer (some p1)] 72) := ⟨_, rfl⟩
        have hba : Below w6.heap.size w6 wa := by rw [hwa]; exact HBT.out.alloc HBT.out.size _
        have hca : wa.heap[wt.heap.size]? = some (Obj.cells #[Value.pointer (some p1), Value.pointer (some p1)] 72 (0, 0)) := by rw [hwa]; exact heap_new' rfl
        have hci : wa.heap[w6.heap.size]? = some (Obj.cells #[Value.int IntKind.i64 t, Value.int IntKind.i64 s] 3 (0, 0)) := by
          rw [hwa]; exact (heap_old' (Array.getElem?_eq_some_iff.1 HCT.out).1).trans HCT.out
        rw [← hwa]
        clear hwa
        have HBA := Lib.hid (below_trans HBA0.out hba)
        have HSA := Lib.hid (Stay.of_below HBA.out)
        have hp1 := HRP.out.stay HSA.out
        have HNT := Lib.hid (newTwo_any Z w6.heap.size wt.heap.size t s p1 p1 k k a a wa (HZ.out.ext HBA.out.size) (fun h => absurd (HZ.out _ h) (by have := HBA0.out.size; omega)) (fun h => absurd (HZ.out _ h) (by have := HBA0.out.size; have := HBT.out.size; omega)) hci hca hp1 hp1)
        clear hca hci hp1 hba
        refine HNT.out.mono ?_
        rintro e wb ⟨r, rfl, hrr, hrk, _, hbb⟩
        have HMO := Lib.hid (MO.new (S := S) (t := mgA wild (.cons s k a .nil) (.cons t k a .nil)) (RD := RDs wild Ok) (L := L) (Φ := Φ) (Φ' := Φ) (w := w) (r := r) (E := []) HCI.out Fine.nil (by rw [List.append_nil]; exact HCL.out.stay HSA.out) (HCI.out.below HI.out HBA.out) (fun j hj => .inl hj) (Chg.of_below HBA.out) HSA.out hbb ⟨_, hrk, fun x hx => by
          rw [List.append_nil]
          rcases List.mem_cons.1 hx with rfl | hx
          · exact HP1S.out
          · rw [List.mem_singleton.1 hx]; exact HP1S.out⟩ (by rw [mgA_gt wild k k a a HGT.out]; exact hrr)
          (HRED.out (by rw [mgA_gt wild k k a a HGT.out]; simp) (by rw [mgA_gt wild k k a a HGT.out]; simp)) (by rw [mgA_gt wild k k a a HGT.out]; exact Shr.two hrk (fun _ => rfl)))
        have HSB := Lib.hid (HSA.out.trans (Stay.of_below hbb))
        clear hrr hrk hbb HNT
        have HFIN := Lib.hid ((HMO.out.mono HCI.out (show L ≤ L + a.size + 2 by omega)).out)
        go_wp2_with fail
        go_ret
        exact HFIN.out
      · have hlt : s < t := by have := HST.out; omega
        have HGT := Lib.hid hlt
        go_wp2_with fail
        refine wp_region_order (fun w' => w' = w7.drew) [0, 1, 2, 3, 4, 5, 6, 7, 8] [] (by kernel_rfl) (by kernel_rfl) rfl ?_
        repeat
          apply TakesThen.cons rfl rfl
          · intro w' hw'
            subst hw'
            go_simp
            with_reducible rfl
          try simp only [Act.put, List.getElem_toArray, List.getElem_cons_succ, List.getElem_cons_zero, List.setIfInBounds_toArray, List.set_cons_zero, List.set_cons_succ]
        refine TakesThen.nil (Chain.nil ?_)
        obtain ⟨w8, hw⟩ : ∃ z, z = w7.drew := ⟨_, rfl⟩
        have hd8 : Dr w7 w8 := by rw [hw]; exact ⟨1, rfl⟩
        have hs8 : w8.heap.size = w7.heap.size := by rw [hd8.heap]
        rw [← hw]
        clear hw
        have hc8 : w8.heap[w6.heap.size]? = some (Obj.cells #[Value.int IntKind.i64 s, Value.int IntKind.i64 t] 3 (0, 0)) := by rw [hd8.heap]; exact HC7.out
        have HB8 := Lib.hid (below_trans HB7.out hd8.below)
        have HB68 := Lib.hid (below_trans HB67.out hd8.below)
        have HBT := Lib.hid HB68.out
        have HCT := Lib.hid hc8
        obtain ⟨wt, hwt⟩ : ∃ z, z = w8 := ⟨_, rfl⟩
        rw [← hwt] at HBT HCT ⊢
        clear hwt hc8 hd8 hs8
        go_wp2_with fail
        obtain ⟨wa, hwa⟩ : ∃ z, z = wt.alloc (Obj.cells #[Value.pointer (some p1), Value.pointer (some p1)] 72) := ⟨_, rfl⟩
        have hba : Below w6.heap.size w6 wa := by rw [hwa]; exact HBT.out.alloc HBT.out.size _
        have hca : wa.heap[wt.heap.size]? = some (Obj.cells #[Value.pointer (some p1), Value.pointer (some p1)] 72 (0, 0)) := by rw [hwa]; exact heap_new' rfl
        have hci : wa.heap[w6.heap.size]? = some (Obj.cells #[Value.int IntKind.i64 s, Value.int IntKind.i64 t] 3 (0, 0)) := by
          rw [hwa]; exact (heap_old' (Array.getElem?_eq_some_iff.1 HCT.out).1).trans HCT.out
        rw [← hwa]
        clear hwa
        have HBA := Lib.hid (below_trans HBA0.out hba)
        have HSA := Lib.hid (Stay.of_below HBA.out)
        have hp1 := HRP.out.stay HSA.out
        have HNT := Lib.hid (newTwo_any Z w6.heap.size wt.heap.size s t p1 p1 k k a a wa (HZ.out.ext HBA.out.size) (fun h => absurd (HZ.out _ h) (by have := HBA0.out.size; omega)) (fun h => absurd (HZ.out _ h) (by have := HBA0.out.size; have := HBT.out.size; omega)) hci hca hp1 hp1)
        clear hca hci hp1 hba
        refine HNT.out.mono ?_
        rintro e wb ⟨r, rfl, hrr, hrk, _, hbb⟩
        have HMO := Lib.hid (MO.new (S := S) (t := mgA wild (.cons s k a .nil) (.cons t k a .nil)) (RD := RDs wild Ok) (L := L) (Φ := Φ) (Φ' := Φ) (w := w) (r := r) (E := []) HCI.out Fine.nil (by rw [List.append_nil]; exact HCL.out.stay HSA.out) (HCI.out.below HI.out HBA.out) (fun j hj => .inl hj) (Chg.of_below HBA.out) HSA.out hbb ⟨_, hrk, fun x hx => by
          rw [List.append_nil]
          rcases List.mem_cons.1 hx with rfl | hx
          · exact HP1S.out
          · rw [List.mem_singleton.1 hx]; exact HP1S.out⟩ (by rw [mgA_lt wild k k a a HGT.out]; exact hrr)
          (HRED.out (by rw [mgA_lt wild k k a a HGT.out]; simp) (by rw [mgA_lt wild k k a a HGT.out]; simp)) (by rw [mgA_lt wild k k a a HGT.out]; exact Shr.two hrk (fun _ => rfl)))
        have HSB := Lib.hid (HSA.out.trans (Stay.of_below hbb))
        clear hrr hrk hbb HNT
        have HFIN := Lib.hid ((HMO.out.mono HCI.out (show L ≤ L + a.size + 2 by omega)).out)
        go_wp2_with fail
        go_ret
        exact HFIN.out
    · rw [eqB_false hab]
      have HAB := Lib.hid hab
      go_wp2_with fail
      have HBA0 := Lib.hid HD6.out.below
      refine wp_region_order (fun w' => Below w6.heap.size w6 w') [0, 1, 2, 3, 4, 5, 6, 7] [8, 9] (by kernel_rfl) (by kernel_rfl) (below_drew' (Below.refl _ _)) ?_
      repeat
        apply TakesThen.cons rfl rfl
        · intro w' hw'
          have x1 := cell_bel z1 hw'
          have x3 := cell_bel z3 hw'
          go_simp
          with_reducible rfl
        try simp only [Act.put, List.getElem_toArray, List.getElem_cons_succ, List.getElem_cons_zero, List.setIfInBounds_toArray, List.set_cons_zero, List.set_cons_succ]
      refine TakesThen.nil ?_
      refine Chain.step rfl rfl (fun K hK => ?_)
      go_simp
      obtain ⟨w7, hw⟩ : ∃ z, z = (w6.alloc (Obj.cells #[Value.int IntKind.i64 s, Value.int IntKind.i64 t] 3)).drew := ⟨_, rfl⟩
      have hb_w7 : Below w6.heap.size w6 w7 := by rw [hw]; exact below_drew' ((Below.refl _ _).alloc (Nat.le_refl _) _)
      have hc_w7 : w7.heap[w6.heap.size]? = some (Obj.cells #[Value.int IntKind.i64 s, Value.int IntKind.i64 t] 3 (0, 0)) := by rw [hw]; exact heap_new' rfl
      rw [← hw]
      clear hw
      refine hK _ _ hb_w7 ?_
      clear hK
      try simp only [Act.put, List.getElem_toArray, List.getElem_cons_succ, List.getElem_cons_zero, List.setIfInBounds_toArray, List.set_cons_zero, List.set_cons_succ]
      refine Chain.last (by kernel_rfl) rfl rfl (fun K hK => ?_)
      go_simp
      refine hK _ _ ?_
      clear hK
      refine NoPanic.normal ?_
      have HB7 := Lib.hid (below_trans HBA0.out hb_w7)
      have HC7 := Lib.hid hc_w7
      have HB67 := Lib.hid hb_w7
      obtain ⟨y0, y1, y2, y3⟩ := HCC.out w7 (Stay.of_below HB7.out)
      clear hb_w7 hc_w7 z0 z1 z2 z3 hab
      go_wp2_with fail
      refine wp_region_order (fun w' => Below w7.heap.size w7 w') [0, 1, 2, 3, 4, 5, 6, 7] [8, 9] (by kernel_rfl) (by kernel_rfl) (below_drew' (Below.refl _ _)) ?_
      repeat
        apply TakesThen.cons rfl rfl
        · intro w' hw'
          have x0 := cell_bel y0 hw'
          have x2 := cell_bel y2 hw'
          go_simp
          with_reducible rfl
        try simp only [Act.put, List.getElem_toArray, List.getElem_cons_succ, List.getElem_cons_zero, List.setIfInBounds_toArray, List.set_cons_zero, List.set_cons_succ]
      refine TakesThen.nil ?_
      refine Chain.step rfl rfl (fun K hK => ?_)
      go_simp
      obtain ⟨w8, hw⟩ : ∃ z, z = (w7.alloc (Obj.cells #[Value.pointer (some p1), Value.pointer (some q1)] 72)).drew := ⟨_, rfl⟩
      have hb_w8 : Below w7.heap.size w7 w8 := by rw [hw]; exact below_drew' ((Below.refl _ _).alloc (Nat.le_refl _) _)
      have hc_w8 : w8.heap[w7.heap.size]? = some (Obj.cells #[Value.pointer (some p1), Value.pointer (some q1)] 72 (0, 0)) := by rw [hw]; exact heap_new' rfl
      rw [← hw]
      clear hw
      refine hK _ _ hb_w8 ?_
      clear hK
      try simp only [Act.put, List.getElem_toArray, List.getElem_cons_succ, List.getElem_cons_zero, List.setIfInBounds_toArray, List.set_cons_zero, List.set_cons_succ]
      refine Chain.last (by kernel_rfl) rfl rfl (fun K hK => ?_)
      go_simp
      refine hK _ _ ?_
      clear hK
      refine NoPanic.normal ?_
      have HB8 := Lib.hid (below_trans HB7.out hb_w8)
      have HC8 := Lib.hid hc_w8
      have HI8 := Lib.hid (show w8.heap[w6.heap.size]? = some (Obj.cells #[Value.int IntKind.i64 s, Value.int IntKind.i64 t] 3 (0, 0)) from (hb_w8.block _ (Array.getElem?_eq_some_iff.1 HC7.out).1).trans HC7.out)
      have HB68 := Lib.hid (below_trans HB67.out hb_w8)
      obtain ⟨u0, u1, u2, u3⟩ := HCC.out w8 (Stay.of_below HB8.out)
      clear hb_w8 hc_w8 y0 y1 y2 y3
      by_cases hgt : t < s
      · have HGT := Lib.hid hgt
        go_wp2_with fail
        refine wp_region_order (fun w' => w' = w8.drew) [0, 1, 2, 3, 4, 5, 6, 7, 8] [] (by kernel_rfl) (by kernel_rfl) rfl ?_
        repeat
          apply TakesThen.cons rfl rfl
          · intro w' hw'
            subst hw'
            go_simp
            with_reducible rfl
          try simp only [Act.put, List.getElem_toArray, List.getElem_cons_succ, List.getElem_cons_zero, List.setIfInBounds_toArray, List.set_cons_zero, List.set_cons_succ]
        refine TakesThen.nil (Chain.nil ?_)
        obtain ⟨w9, hw⟩ : ∃ z, z = w8.drew := ⟨_, rfl⟩
        have hd9 : Dr w8 w9 := by rw [hw]; exact ⟨1, rfl⟩
        rw [← hw]
        clear hw
        have hc9 : w9.heap[w6.heap.size]? = some (Obj.cells #[Value.int IntKind.i64 s, Value.int IntKind.i64 t] 3 (0, 0)) := by rw [hd9.heap]; exact HI8.out
        have HB9 := Lib.hid (below_trans HB8.out hd9.below)
        have HB69 := Lib.hid (below_trans HB68.out hd9.below)
        obtain ⟨v0, v1, v2, v3⟩ := HCC.out w9 (Stay.of_below HB9.out)
        have f0 : w9.cell? ⟨w6.heap.size, 0, none⟩ = some (.int .i64 s) := cell_of hc9 0
        have f1 : w9.frozen? ⟨w6.heap.size, 0, none⟩ = false := by simp [World.frozen?, hc9]
        obtain ⟨wx, hwx⟩ : ∃ z, z = w9.setCell ⟨w6.heap.size, 0, none⟩ (.int .i64 t) := ⟨_, rfl⟩
        have hcx : wx.heap[w6.heap.size]? = some (Obj.cells #[Value.int IntKind.i64 t, Value.int IntKind.i64 t] 3 (0, 0)) := by rw [hwx, heap_setCell_same w9 w6.heap.size 0 _ _ _ hc9]; rfl
        have hbx : Below w6.heap.size w6 wx := by rw [hwx]; exact HB69.out.setCell (Nat.le_refl _) _
        obtain ⟨n0, n1, n2, n3⟩ := HCC.out wx (Stay.of_below (below_trans HBA0.out hbx))
        have f2 : wx.cell? ⟨w6.heap.size, 1, none⟩ = some (.int .i64 t) := cell_of hcx 1
        have f3 : wx.frozen? ⟨w6.heap.size, 1, none⟩ = false := by simp [World.frozen?, hcx]
        have hwe : w9.setCell ⟨w6.heap.size, 0, none⟩ (.int .i64 t) = wx := hwx.symm
        obtain ⟨wt, hwt⟩ : ∃ z, z = wx.setCell ⟨w6.heap.size, 1, none⟩ (.int .i64 s) := ⟨_, rfl⟩
        have hct : wt.heap[w6.heap.size]? = some (Obj.cells #[Value.int IntKind.i64 t, Value.int IntKind.i64 s] 3 (0, 0)) := by rw [hwt, heap_setCell_same wx w6.heap.size 1 _ _ _ hcx]; rfl
        have hbt : Below w6.heap.size w6 wt := by rw [hwt]; exact hbx.setCell (Nat.le_refl _) _
        have hwe2 : wx.setCell ⟨w6.heap.size, 1, none⟩ (.int .i64 s) = wt := hwt.symm
        have HBT := Lib.hid hbt
        have HCT := Lib.hid hct
        obtain ⟨t0, t1, t2, t3⟩ := HCC.out wt (Stay.of_below (below_trans HBA0.out hbt))
        clear hwx hwt hc9 hcx hbx hct hbt hd9 u0 u1 u2 u3
        go_wp2_with fail
        refine wp_region_order (fun w' => Below wt.heap.size wt w') [0, 1, 2, 3, 4, 5, 6, 7] [8, 9] (by kernel_rfl) (by kernel_rfl) (below_drew' (Below.refl _ _)) ?_
        repeat
          apply TakesThen.cons rfl rfl
          · intro w' hw'
            have x0 := cell_bel t0 hw'
            have x2 := cell_bel t2 hw'
            go_simp
            with_reducible rfl
          try simp only [Act.put, List.getElem_toArray, List.getElem_cons_succ, List.getElem_cons_zero, List.setIfInBounds_toArray, List.set_cons_zero, List.set_cons_succ]
        refine TakesThen.nil ?_
        refine Chain.step rfl rfl (fun K hK => ?_)
        go_simp
        obtain ⟨wa, hw⟩ : ∃ z, z = (wt.alloc (Obj.cells #[Value.pointer (some q1), Value.pointer (some p1)] 72)).drew := ⟨_, rfl⟩
        have hb_wa : Below wt.heap.size wt wa := by rw [hw]; exact below_drew' ((Below.refl _ _).alloc (Nat.le_refl _) _)
        have hc_wa : wa.heap[wt.heap.size]? = some (Obj.cells #[Value.pointer (some q1), Value.pointer (some p1)] 72 (0, 0)) := by rw [hw]; exact heap_new' rfl
        rw [← hw]
        clear hw
        refine hK _ _ hb_wa ?_
        clear hK
        try simp only [Act.put, List.getElem_toArray, List.getElem_cons_succ, List.getElem_cons_zero, List.setIfInBounds_toArray, List.set_cons_zero, List.set_cons_succ]
        refine Chain.last (by kernel_rfl) rfl rfl (fun K hK => ?_)
        go_simp
        refine hK _ _ ?_
        clear hK
        refine NoPanic.normal ?_
        have hba := below_trans HBT.out hb_wa
        have hci := (hb_wa.block _ (Array.getElem?_eq_some_iff.1 HCT.out).1).trans HCT.out
        have HBA := Lib.hid (below_trans HBA0.out hba)
        have HSA := Lib.hid (Stay.of_below HBA.out)
        have HNT := Lib.hid (newTwo_any Z w6.heap.size wt.heap.size t s q1 p1 k' k b a wa (HZ.out.ext HBA.out.size) (fun h => absurd (HZ.out _ h) (by have := HBA0.out.size; omega)) (fun h => absurd (HZ.out _ h) (by have := HBA0.out.size; have := HBT.out.size; omega)) hci hc_wa (HRQ.out.stay HSA.out) (HRP.out.stay HSA.out))
        clear hc_wa hci hba hb_wa
        go_wp2_with fail
        refine HNT.out.mono ?_
        rintro e wb ⟨r, rfl, hrr, hrk, _, hbb⟩
        have HMO := Lib.hid (MO.new (S := S) (t := mgA wild (.cons s k a .nil) (.cons t k' b .nil)) (RD := RDs wild Ok) (L := L) (Φ := Φ) (Φ' := Φ) (w := w) (r := r) (E := []) HCI.out Fine.nil (by rw [List.append_nil]; exact HCL.out.stay HSA.out) (HCI.out.below HI.out HBA.out) (fun j hj => .inl hj) (Chg.of_below HBA.out) HSA.out hbb ⟨_, hrk, fun x hx => by
          rw [List.append_nil]
          rcases List.mem_cons.1 hx with rfl | hx
          · exact HQ1S.out
          · rw [List.mem_singleton.1 hx]; exact HP1S.out⟩ (by rw [mgA_gt wild k k' a b HGT.out]; exact hrr)
          (HRED.out (by rw [mgA_gt wild k k' a b HGT.out]; simp) (by rw [mgA_gt wild k k' a b HGT.out]; simp)) (by rw [mgA_gt wild k k' a b HGT.out]; exact Shr.two hrk (fun e => absurd ⟨e.1.symm, e.2.symm⟩ HAB.out)))
        have HSB := Lib.hid (HSA.out.trans (Stay.of_below hbb))
        clear hrr hrk hbb HNT
        have HFIN := Lib.hid ((HMO.out.mono HCI.out (show L ≤ L + a.size + 2 by omega)).out)
        go_wp2_with fail
        go_ret
        exact HFIN.out
      · have hlt : s < t := by have := HST.out; omega
        have HGT := Lib.hid hlt
        go_wp2_with fail
        refine wp_region_order (fun w' => w' = w8.drew) [0, 1, 2, 3, 4, 5, 6, 7, 8] [] (by kernel_rfl) (by kernel_rfl) rfl ?_
        repeat
          apply TakesThen.cons rfl rfl
          · intro w' hw'
            subst hw'
            go_simp
            with_reducible rfl
          try simp only [Act.put, List.getElem_toArray, List.getElem_cons_succ, List.getElem_cons_zero, List.setIfInBounds_toArray, List.set_cons_zero, List.set_cons_succ]
        refine TakesThen.nil (Chain.nil ?_)
        obtain ⟨w9, hw⟩ : ∃ z, z = w8.drew := ⟨_, rfl⟩
        have hd9 : Dr w8 w9 := by rw [hw]; exact ⟨1, rfl⟩
        rw [← hw]
        clear hw
        have hc9 : w9.heap[w6.heap.size]? = some (Obj.cells #[Value.int IntKind.i64 s, Value.int IntKind.i64 t] 3 (0, 0)) := by rw [hd9.heap]; exact HI8.out
        have HB9 := Lib.hid (below_trans HB8.out hd9.below)
        have HB69 := Lib.hid (below_trans HB68.out hd9.below)
        have hc8 : w9.heap[w7.heap.size]? = some (Obj.cells #[Value.pointer (some p1), Value.pointer (some q1)] 72 (0, 0)) := by rw [hd9.heap]; exact HC8.out
        have HBA := Lib.hid (below_trans HBA0.out HB69.out)
        have HSA := Lib.hid (Stay.of_below HBA.out)
        have HNT := Lib.hid (newTwo_any Z w6.heap.size w7.heap.size s t p1 q1 k k' a b w9 (HZ.out.ext HBA.out.size) (fun h => absurd (HZ.out _ h) (by have := HBA0.out.size; omega)) (fun h => absurd (HZ.out _ h) (by have := HB7.out.size; omega)) hc9 hc8 (HRP.out.stay HSA.out) (HRQ.out.stay HSA.out))
        clear hc8 hc9 hd9
        go_wp2_with fail
        refine HNT.out.mono ?_
        rintro e wb ⟨r, rfl, hrr, hrk, _, hbb⟩
        have HMO := Lib.hid (MO.new (S := S) (t := mgA wild (.cons s k a .nil) (.cons t k' b .nil)) (RD := RDs wild Ok) (L := L) (Φ := Φ) (Φ' := Φ) (w := w) (r := r) (E := []) HCI.out Fine.nil (by rw [List.append_nil]; exact HCL.out.stay HSA.out) (HCI.out.below HI.out HBA.out) (fun j hj => .inl hj) (Chg.of_below HBA.out) HSA.out hbb ⟨_, hrk, fun x hx => by
          rw [List.append_nil]
          rcases List.mem_cons.1 hx with rfl | hx
          · exact HP1S.out
          · rw [List.mem_singleton.1 hx]; exact HQ1S.out⟩ (by rw [mgA_lt wild k k' a b HGT.out]; exact hrr)
          (HRED.out (by rw [mgA_lt wild k k' a b HGT.out]; simp) (by rw [mgA_lt wild k k' a b HGT.out]; simp)) (by rw [mgA_lt wild k k' a b HGT.out]; exact Shr.two hrk (fun e => absurd e HAB.out)))
        have HSB := Lib.hid (HSA.out.trans (Stay.of_below hbb))
        clear hrr hrk hbb HNT
        have HFIN := Lib.hid ((HMO.out.mono HCI.out (show L ≤ L + a.size + 2 by omega)).out)
        go_wp2_with fail
        go_ret
        exact HFIN.out
end Go.Proofs.Ytcbabfndfikejaa
