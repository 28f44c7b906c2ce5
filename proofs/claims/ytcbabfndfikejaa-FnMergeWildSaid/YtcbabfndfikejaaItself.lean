/- The law FnMergeItself: its walk. Condition: none but that the table reads. -/
import Derived.Test.YtcbabfndfikejaaZtt
import Derived.Test.YtcbabfndfikejaaBuild2
import Derived.Test.YtcbabfndfikejaaLst
import Derived.Test.YtcbabfndfikejaaBack
import Derived.Test.YtcbabfndfikejaaCom
namespace Go.Proofs.Ytcbabfndfikejaa
open Go.RowKit
set_option linter.unusedSimpArgs false

theorem merge_self (p : Addr) (wild : Bool) (v : Value) (w : World) : Calls Try.prog 61 #[.pointer (some p), .pointer (some p), .bool wild, v] w (PtrPost p w) := by
  have h := eqlP_same w p
  go_enter Try.func61, Try.ntmps61
  go_wp2_with fail
  go_ret
  exact ⟨rfl, rfl⟩
theorem cl_of_reps {w : World} {X : Nat → Prop} {bs : List (Nat × Tops)} {qs : List Addr} (h : Reps2 w X bs qs) : Cl w qs := fun q hq => by
  obtain ⟨rs, ⟨g, k, h', ss, h1, h2⟩, h3⟩ := h.2 q hq
  exact ⟨g, k, h', ss, rs, h1, h2.move (fun g cs e _ hx hg => ⟨hg, fun h => h⟩), h3⟩
theorem mkTops_srt {bs : List (Nat × Tops)} : ∀ (ps ss : List Int), (∀ j s s', ss[j]? = some s → ss[j + 1]? = some s' → s < s') → (∀ p ∈ ps, (bs.getD p.toNat (0, .nil)).2.srt) → (mkTops bs ps ss).srt
  | _, [], _, _ => by rw [mkTops_nil]; trivial
  | [], s :: ss, _, _ => trivial
  | p :: ps, s :: ss, h, hp => by
    refine ⟨fun t ht => ?_, hp p (List.mem_cons_self ..), mkTops_srt ps ss (fun j s s' h1 h2 => h (j + 1) s s' (by simpa using h1) (by simpa using h2)) (fun x hx => hp x (List.mem_cons_of_mem _ hx))⟩
    have key : ∀ (l : List Int) (a : Int), (∀ j s s', (a :: l)[j]? = some s → (a :: l)[j + 1]? = some s' → s < s') → ∀ t ∈ l, a < t := by
      intro l
      induction l with
      | nil => intro a _ t ht; cases ht
      | cons b l ih =>
        intro a hh t ht
        have hab := hh 0 a b rfl rfl
        rcases List.mem_cons.1 ht with rfl | ht
        · exact hab
        · exact Int.lt_trans hab (ih b (fun j s s' h1 h2 => hh (j + 1) s s' (by simpa using h1) (by simpa using h2)) t ht)
    have hsub : ∀ (ps ss : List Int) (t : Int), t ∈ (mkTops bs ps ss).sts → t ∈ ss := by
      intro ps ss
      induction ss generalizing ps with
      | nil => intro t ht; rw [mkTops_nil] at ht; cases ht
      | cons b l ih =>
        intro t ht
        cases ps with
        | nil => cases ht
        | cons p ps =>
          rcases List.mem_cons.1 ht with rfl | ht
          · exact List.mem_cons_self ..
          · exact List.mem_cons_of_mem _ (ih ps t ht)
    exact key ss s h t (hsub ps ss t ht)
theorem tr_srt {ns : List Nd} (hg : GoodT ns) : ∀ (n k : Nat), k < n → k < ns.length → (tr ns k).2.srt
  | 0, _, h, _ => absurd h (by omega)
  | n + 1, k, hk, hl => by
    have hnd := List.getElem?_eq_getElem hl
    generalize ns[k] = nd at *
    rw [tr_eq hg.tab hnd]
    obtain ⟨hpl, h4, hok⟩ := hg.2 k nd hl hnd
    refine mkTops_srt _ _ (fun j s s' h1 h2 => ?_) (fun p hp => ?_)
    · obtain ⟨s1, _, e1, _, _, _, _, _, hs⟩ := hok (j + 1) (List.getElem?_eq_some_iff.1 h2).1
      obtain ⟨s0, e0, hlt⟩ := hs (by omega)
      simp at e0
      rw [h1] at e0
      cases e0
      rw [h2] at e1
      cases e1
      exact hlt
    · obtain ⟨j, hj⟩ := List.mem_iff_getElem?.1 hp
      obtain ⟨s, p', e1, e2, _, _, h0, hlt, _⟩ := hok j (by rw [← hpl]; exact (List.getElem?_eq_some_iff.1 hj).1)
      rw [hj] at e2
      cases e2
      have := tr_srt hg n p.toNat (by omega) (by omega)
      exact this

/-! ### a merge, by the way to it and from it -/
/-- A choice is handed back; it and what is below are at most N. -/
def MPost (x : Tr) (N : Nat) (w : World) (e : Ending) (w' : World) : Prop := ∃ p S, e = .returned (.pointer (some p)) ∧ Rep w' NoX p x.1 x.2 ∧ p ∈ S ∧ Cl w' S ∧ S.length ≤ N ∧ Below w.heap.size w w'
/-- A table is handed back, whose last choice has these tops. -/
def TabN (N : Nat) (f : Tops) (w : World) (e : Ending) (w' : World) : Prop := ∃ A c ms, e = .returned (.slice A ms.length c) ∧ Tbl w' w'.heap.size A ms ∧ TG ms ∧ 0 < ms.length ∧ ms.length ≤ N ∧ tr ms (ms.length - 1) = (kindOf f.len, nrm f) ∧ Below w.heap.size w w'
/-- What a merge of two choices of a table owes, whatever cache v it is handed. -/
def Owes (a b : Nat) (wild : Bool) (v : Value) (x : Tr) (N : Nat) (W : World) (qs : List Addr) : Prop := ∀ (W' : World) (qa qb : Addr), Below W.heap.size W W' → qs[a]? = some qa → qs[b]? = some qb → Calls Try.prog 61 #[.pointer (some qa), .pointer (some qb), .bool wild, v] W' (MPost x N W')
set_option maxHeartbeats 1000000 in
theorem zzMergeU_any (A : Option Addr) (c a b : Nat) (wild : Bool) (ns : List Nd) (x : Tr) (N : Nat) (w : World) (ht : Tbl w w.heap.size A ns) (hg : GoodT ns) (ha : a < ns.length) (hb : b < ns.length) (hx : Wf x.1 x.2) (hs : x.2.srt) (hN : N ≤ 1000)
    (hm : ∀ (W : World) (qs : List Addr), Reps2 W NoX (built ns) qs → qs.length = ns.length → Owes a b wild (.pointer none) x N W qs) :
    Calls Try.prog 44 #[.slice A ns.length c, .int .i64 (a : Int), .int .i64 (b : Int), .bool wild, .bool false] w (TabN N x.2 w) := by
  have HM := Lib.hid hm
  have HC := Lib.hid (zzBuild2_any A c ns w ht hg)
  have HX := Lib.hid hx
  have HSR := Lib.hid hs
  clear ht hm hx hs
  have hnl := hg.1
  go_enter Try.func44, Try.ntmps44
  go_wp2_with fail
  refine HC.out.mono ?_
  rintro e w1 ⟨A1, c1, qs, rfl, hown, hreps, hb1⟩
  have hql : qs.length = ns.length := by have := hown.1; simpa [ptrs] using this
  have hreps' : Reps2 w1 NoX (built ns) qs := ⟨fun i q hi => by
    obtain ⟨kf, h1, h2⟩ := hreps.1 i q hi
    exact ⟨kf, h1, h2.move (fun g cs e _ hx hg => ⟨hg, fun h => h⟩)⟩, fun q hq => (hreps.2 q hq).move (fun g cs e _ hx hg => ⟨hg, fun h => h⟩)⟩
  obtain ⟨qa, hqa⟩ : ∃ q, qs[a]? = some q := ⟨_, List.getElem?_eq_getElem (by omega)⟩
  obtain ⟨qb, hqb⟩ : ∃ q, qs[b]? = some q := ⟨_, List.getElem?_eq_getElem (by omega)⟩
  have hr := Reads.of_own hown
  obtain ⟨b0, off, u, rfl, _, hu, hca⟩ := hr.at1 ha
  obtain ⟨q, hq, rfl⟩ := ptrs_at hu
  rw [hqa] at hq; cases hq
  obtain ⟨b2, off2, u2, e2, _, hu2, hcb⟩ := hr.at1 hb
  cases e2
  obtain ⟨q, hq, rfl⟩ := ptrs_at hu2
  rw [hqb] at hq; cases hq
  have HMM := Lib.hid (HM.out w1 qs hreps' hql)
  have HQA := Lib.hid hqa
  have HQB := Lib.hid hqb
  have HB1 := Lib.hid hb1
  have ha' : (a : Int) < (ns.length : Int) := by omega
  have hb' : (b : Int) < (ns.length : Int) := by omega
  clear hown hreps hreps' hr hu hu2 hqa hqb hb1 HC
  go_wp2_with fail
  refine wp_region_order (fun w' => Below w1.heap.size w1 w') [0, 1, 2, 3, 4, 5, 6, 7, 8, 9] [10, 11, 12] (by kernel_rfl) (by kernel_rfl) (below_drew' (Below.refl _ _)) ?_
  repeat
    apply TakesThen.cons rfl rfl
    · intro w' hw'
      have x0 := cell_bel hca hw'
      have x1 := cell_bel hcb hw'
      go_simp
      with_reducible rfl
    try simp only [Act.put, List.getElem_toArray, List.getElem_cons_succ, List.getElem_cons_zero, List.setIfInBounds_toArray, List.set_cons_zero, List.set_cons_succ]
  refine TakesThen.nil ?_
  refine Chain.step rfl rfl (fun K hK => ?_)
  go_simp
  refine (HMM.out w1.drew qa qb (below_drew' (Below.refl _ _)) HQA.out HQB.out).mono ?_
  rintro e w2 ⟨p, S, rfl, hrp, hpS, hcl, hSl, hb2⟩
  have hb12 : Below w1.heap.size w1 w2 := below_trans (below_drew' (Below.refl _ _)) hb2
  refine hK _ _ hb12 ?_
  clear hK
  try simp only [Act.put, List.getElem_toArray, List.getElem_cons_succ, List.getElem_cons_zero, List.setIfInBounds_toArray, List.set_cons_zero, List.set_cons_succ]
  have HZ := Lib.hid (zzTable_any S p x.1 x.2 w2 hrp HX.out HSR.out hpS hcl (by omega))
  have HB12 := Lib.hid (below_trans HB1.out hb12)
  have HB012 := Lib.hid hb12
  clear hrp hcl hb2 hb12
  refine Chain.step rfl rfl (fun K hK => ?_)
  go_simp
  refine HZ.out.mono ?_
  rintro e w3 ⟨A3, c3, ms, rfl, htb, hgd, h0, hle, htr, hb3⟩
  have HFIN := Lib.hid (show TabN N x.2 w (.returned (.slice A3 ms.length c3)) w3 from ⟨A3, c3, ms, rfl, htb, hgd, h0, by omega, htr, below_trans HB12.out hb3⟩)
  refine hK _ _ (below_trans HB012.out hb3) ?_
  clear hK htb hgd htr hb3
  try simp only [Act.put, List.getElem_toArray, List.getElem_cons_succ, List.getElem_cons_zero, List.setIfInBounds_toArray, List.set_cons_zero, List.set_cons_succ]
  refine Chain.last (by kernel_rfl) rfl rfl (fun K hK => ?_)
  go_simp
  refine hK _ _ ?_
  clear hK
  refine NoPanic.normal ?_
  go_wp2_with fail
  go_ret
  exact HFIN.out
theorem back_tab (A : Option Addr) (c N : Nat) (ms : List Nd) (w : World) (ht : Tbl w w.heap.size A ms) (hg : TG ms) (hN : N ≤ 1000) (hl : ms.length ≤ N) :
    Calls Try.prog 42 #[.slice A ms.length c] w (fun e w' => ∃ A' c', e = .returned (.slice A' ms.length c') ∧ Tbl w' w'.heap.size A' ms ∧ Below w.heap.size w w') := by
  refine (back_any A c ms w ht ⟨by omega, fun k nd hk => ⟨by rw [(hg k nd hk).1]; exact (hg k nd hk).2.1, (hg k nd hk).2.1⟩⟩).mono ?_
  rintro e w' ⟨v, rfl, ho, hb⟩
  obtain ⟨A', c', rfl, ht'⟩ := ho.tbl
  exact ⟨A', c', rfl, ht', hb⟩
set_option maxHeartbeats 1000000 in
theorem implMergeU_any (A : Option Addr) (c a b : Nat) (wild : Bool) (ns : List Nd) (x : Tr) (N : Nat) (w : World) (ht : Tbl w w.heap.size A ns) (hg : GoodT ns) (ha : a < ns.length) (hb : b < ns.length) (hx : Wf x.1 x.2) (hs : x.2.srt) (hN : N ≤ 1000)
    (hm : ∀ (W : World) (qs : List Addr), Reps2 W NoX (built ns) qs → qs.length = ns.length → Owes a b wild (.pointer none) x N W qs) :
    Calls Try.prog 31 #[.slice A ns.length c, .int .i64 (a : Int), .int .i64 (b : Int), .bool wild, .bool false] w (TabN N x.2 w) := by
  have HM := Lib.hid hm
  have HT := Lib.hid ht
  have HX := Lib.hid hx
  have HSR := Lib.hid hs
  clear ht hm hx hs
  go_enter Try.func31, Try.ntmps31
  go_wp2_with fail
  refine (implNodes_any A c ns w HT.out hg).mono ?_
  rintro e w1 ⟨v, rfl, ho, hb1⟩
  obtain ⟨A1, c1, rfl, ht1⟩ := ho.tbl
  have HT1 := Lib.hid ht1
  have HB1 := Lib.hid hb1
  clear ho ht1 hb1
  go_wp2_with fail
  refine (zzMergeU_any A1 c1 a b wild ns x N w1 HT1.out hg ha hb HX.out HSR.out hN HM.out).mono ?_
  rintro e w2 ⟨A2, c2, ms, rfl, ht2, hgd, h0, hle, htr, hb2⟩
  have HT2 := Lib.hid ht2
  have HB2 := Lib.hid (below_trans HB1.out hb2)
  have HGD := Lib.hid hgd
  have HTR := Lib.hid htr
  clear ht2 hgd htr hb2
  go_wp2_with fail
  refine (back_tab A2 c2 N ms w2 HT2.out HGD.out hN hle).mono ?_
  rintro e w3 ⟨A3, c3, rfl, ht3, hb3⟩
  have HFIN := Lib.hid (show TabN N x.2 w (.returned (.slice A3 ms.length c3)) w3 from ⟨A3, c3, ms, rfl, ht3, HGD.out, h0, hle, HTR.out, below_trans HB2.out hb3⟩)
  clear ht3 hb3
  go_wp2_with fail
  go_ret
  exact HFIN.out
theorem both_stk {ns : List Nd} (hg : GoodT ns) {a b : Nat} (ha : a < ns.length) (hb : b < ns.length) : ∀ l ∈ both ns a b, l.length ≤ 100000 := fun l hl => by
  have hn := hg.1
  rcases List.mem_append.1 hl with h | h
  · have := stk_depth hg.tab (a + 1) a (Nat.lt_succ_self _) ha l h; omega
  · have := stk_depth hg.tab (b + 1) b (Nat.lt_succ_self _) hb l h; omega
set_option maxHeartbeats 2000000 in
theorem lawItself_any (A : Option Addr) (c : Nat) (ns : List Nd) (a : Int) (wild : Bool) (w : World) (ht : Tbl w w.heap.size A ns) (hm : ns.length ≤ 9223372036854775807) :
    Calls Try.prog 11 #[.slice A ns.length c, .int .i64 a, .bool wild] w (Yes w) := by
  have HT := Lib.hid ht
  clear ht
  go_enter Try.func11, Try.ntmps11
  go_wp2_with fail
  refine (zzFits1_any A c ns w HT.out hm).mono ?_
  rintro e w1 ⟨r, rfl, hr, hb1⟩
  cases r
  · go_wp2_with fail
    go_ret
    exact ⟨rfl, hb1⟩
  have hm' := hr rfl
  clear hr
  have HB1 := Lib.hid hb1
  clear hb1
  go_wp2_with fail
  refine (two_any A c ns a a w1 (HT.out.ext HB1.out) hm').mono ?_
  rintro e w2 ⟨A2, c2, L, ok, rfl, hok, hst, hb2⟩
  have HST := Lib.hid hst
  have HB2 := Lib.hid (below_trans HB1.out hb2)
  have HOK := Lib.hid hok
  clear hst hb2 hok
  cases ok
  · go_wp2_with fail
    go_ret
    exact ⟨rfl, HB2.out⟩
  obtain ⟨hg, ka, kb, rfl, hkk, hka, _, hL, h120⟩ := HOK.out rfl
  have hkk' : ka = kb := by omega
  subst hkk'
  have HG := Lib.hid hg
  have HL := Lib.hid hL
  clear hg hkk hL HOK
  have hwf := tr_wf HG.out (ka + 1) ka (Nat.lt_succ_self _) hka
  have hsr := tr_srt HG.out (ka + 1) ka (Nat.lt_succ_self _) hka
  have HC := Lib.hid (implMergeU_any A c ka ka wild ns (tr ns ka) 10 w2 (HT.out.ext HB2.out) HG.out hka hka hwf hsr (by omega) (fun W qs hreps hql W' qa qb hb h1 h2 => by
    rw [h1] at h2; cases h2
    refine (merge_self qa wild _ W').mono ?_
    rintro e W2 ⟨rfl, rfl⟩
    obtain ⟨kf, hk1, hk2⟩ := hreps.1 ka qa h1
    have e1 : tr ns ka = kf := by unfold tr; rw [List.getD_eq_getElem?_getD, hk1]; rfl
    refine ⟨qa, qs, rfl, by rw [e1]; exact hk2.stay (Stay.of_below hb), List.mem_of_getElem? h1, (cl_of_reps hreps).stay (Stay.of_below hb), by rw [hql]; exact HG.out.1, Below.refl _ _⟩))
  clear hwf hsr
  have h60 : (stkOf (tr ns ka).2).length ≤ 120 := by unfold both at h120; rw [List.length_append] at h120; omega
  go_wp2_with fail
  refine HC.out.mono ?_
  rintro e w3 ⟨A3, c3, ms, rfl, ht3, hgd, h0, hle, htr, hb3⟩
  have HT3 := Lib.hid ht3
  have HB3 := Lib.hid (below_trans HB2.out hb3)
  have HST3 := Lib.hid (HST.out.ext hb3)
  have HGD := Lib.hid hgd
  have HTR := Lib.hid htr
  clear ht3 hb3 hgd htr HC
  go_wp2_with fail
  refine (lawStacks_any A3 c3 ms w3 HT3.out HGD.out h0 (by omega)).mono ?_
  rintro e w4 ⟨v4, L4, rfl, hL4, hown4, hb4⟩
  rw [HTR.out, nrm_stkOf] at hL4 ⊢
  rw [if_pos h60] at hL4
  rw [decide_eq_true h60]
  obtain ⟨A4, c4, rfl, hst4⟩ := hown4.stks
  have HST4 := Lib.hid hst4
  have HST34 := Lib.hid (HST3.out.ext hb4)
  have HB4 := Lib.hid (below_trans HB3.out hb4)
  have HL4 := Lib.hid hL4
  clear hown4 hst4 hb4 hL4
  have hSm : SmL L := by rw [HL.out]; exact ⟨by omega, both_stk HG.out hka hka⟩
  have hSm4 : SmL L4 := by rw [HL4.out]; exact ⟨by omega, fun l hl => both_stk HG.out hka hka l (List.mem_append_left _ hl)⟩
  have HSM := Lib.hid hSm
  have HSM4 := Lib.hid hSm4
  clear hSm hSm4
  go_wp2_with fail
  refine (Same_any false A4 A2 c4 c2 L4 L w4 HST4.out HSM4.out HST34.out HSM.out).mono ?_
  rintro e w5 ⟨rfl, hd⟩
  rw [sameB_of (wild := false) (L := L4) (M := L) (fun st => by rw [HL4.out, HL.out]; unfold both; rw [hasW_append]; simp)]
  have HB5 := Lib.hid (below_trans HB4.out hd.below)
  clear hd
  go_wp2_with fail
  go_ret
  exact ⟨by simp, HB5.out⟩
end Go.Proofs.Ytcbabfndfikejaa
