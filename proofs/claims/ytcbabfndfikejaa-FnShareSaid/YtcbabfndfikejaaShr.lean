/- The walks of ZZShare and impl.Share. Condition: the table is good, the numbers are nodes of it. -/
import Derived.Test.YtcbabfndfikejaaGc
import Derived.Test.YtcbabfndfikejaaItself
import Derived.Test.YtcbabfndfikejaaLawCo
namespace Go.Proofs.Ytcbabfndfikejaa
open Go.RowKit
set_option linter.unusedSimpArgs false

/-- The choices of a table have the kinds of a table. -/
theorem tr_nrm {ns : List Nd} (hg : TabOk ns) : ∀ (n k : Nat), k < n → k < ns.length → tr ns k = (kindOf (tr ns k).2.len, nrm (tr ns k).2)
  | 0, _, h, _ => absurd h (by omega)
  | n + 1, k, hk, hl => by
    have hnd := List.getElem?_eq_getElem hl
    generalize ns[k] = nd at *
    obtain ⟨h1, _, h3⟩ := hg.2 k nd hnd
    rw [tr_eq hg hnd]
    have key := mkTops_nrm (bs := built ns) (mkTops (built ns) nd.ps nd.ss) nd.ps (by rw [mkTops_len _ _ _ h1, h1]) (fun j s k' a hj => by
      have hjl : j < nd.ss.length := by
        have := (Tops.at_hs _ _ _ _ _ hj).2
        rw [mkTops_sts _ _ _ h1] at this
        exact (List.getElem?_eq_some_iff.1 this).1
      obtain ⟨p, hp, hlt⟩ := h3 j hjl
      have hat := mkTops_at (bs := built ns) hp (List.getElem?_eq_getElem hjl)
      rw [hj] at hat
      simp only [Option.some.injEq, Prod.mk.injEq] at hat
      have ih := tr_nrm hg n p (by omega) (by omega)
      refine ⟨p, hp, ?_⟩
      have : (built ns).getD p (0, .nil) = tr ns p := rfl
      rw [this, hat.2.2, this]
      exact ih)
    rw [mkTops_sts _ _ _ h1] at key
    rw [← key, mkTops_len _ _ _ h1]
/-- The cache holds choices of the list S. -/
def GE (B : Nat) (S : List Addr) (ca s m : Nat) (w : World) (es : List Ent) : Prop := CC B w ca s m es ∧ (es.map (·.2.1.1)).Nodup ∧
  ∀ x ∈ es, x.2.1.1 ∈ S ∧ x.2.2 ∈ S ∧ Rep w NoX x.2.1.1 x.2.1.2.1 x.2.1.2.2 ∧ Wf x.2.1.2.1 x.2.1.2.2 ∧ Rep w NoX x.2.2 x.2.1.2.1 x.2.1.2.2
theorem GE.below {B : Nat} {S : List Addr} {ca s m : Nat} {w w' : World} {es : List Ent} (h : GE B S ca s m w es) (hb : Below w.heap.size w w') : GE B S ca s m w' es :=
  ⟨h.1.below hb, h.2.1, fun x hx => by
    obtain ⟨h1, h2, h3, h4, h5⟩ := h.2.2 x hx
    exact ⟨h1, h2, h3.stay (Stay.of_below hb), h4, h5.stay (Stay.of_below hb)⟩⟩
theorem GE.lt {B : Nat} {S : List Addr} {ca s m : Nat} {w : World} {es : List Ent} (h : GE B S ca s m w es) : ca < w.heap.size ∧ s < w.heap.size ∧ m < w.heap.size := by
  obtain ⟨⟨h1, _, h2⟩, _⟩ := h
  obtain ⟨es', cl, h3⟩ := h2.mapBlock
  obtain ⟨c, len, T, h4, _⟩ := h2
  exact ⟨(Array.getElem?_eq_some_iff.1 h1).1, (Array.getElem?_eq_some_iff.1 h4).1, (Array.getElem?_eq_some_iff.1 h3).1⟩
theorem GE.gs {B : Nat} {S : List Addr} {ca s m : Nat} {w w' : World} {es : List Ent} (h : GE B S ca s m w es) (hb : Below w.heap.size w w') (hv : VR w' (w.heap.size + 1) w.heap.size []) (hB : B ≤ w.heap.size) (hS : S.length ≤ 1000000) : GS B S ca s m (w.heap.size + 1) w.heap.size w' es [] := by
  have h' := h.below hb
  obtain ⟨l1, l2, l3⟩ := h.lt
  exact ⟨h'.1, h'.2.1, h'.2.2, hv, fun x hx => absurd hx (List.not_mem_nil), ⟨by omega, by omega, by omega, by omega, by omega, by omega⟩, ⟨by omega, by omega⟩, hS⟩
theorem GS.ge {B : Nat} {S : List Addr} {ca s m vs vm : Nat} {w : World} {es : List Ent} {D : PPrs} (h : GS B S ca s m vs vm w es D) : GE B S ca s m w es := ⟨h.cc, h.nd, h.eo⟩

/-- A table is handed back, whose last choice has these tops; and a number that is not negative. -/
def ShPost (f : Tops) (w : World) (e : Ending) (w' : World) : Prop := ∃ A c ms, ∃ n : Int, e = .returned (.tuple #[.slice A ms.length c, .int .i64 n]) ∧ 0 ≤ n ∧ Tbl w' w'.heap.size A ms ∧ TG ms ∧ 0 < ms.length ∧ ms.length ≤ 10 ∧ tr ms (ms.length - 1) = (kindOf f.len, nrm f) ∧ Below w.heap.size w w'
/-- What the last of j rounds has left. -/
def LastR (ns : List Nd) (vn : List Nat) (qs : List Addr) (wr : World) (j : Nat) (v : Value) : Prop := j = 0 ∨ ∃ q k, v = .pointer (some q) ∧ q ∈ qs ∧ vn[j - 1]? = some k ∧ Rep wr NoX q (tr ns k).1 (tr ns k).2
set_option maxRecDepth 20000 in
set_option maxHeartbeats 2000000 in
theorem ZZShare_any (A : Option Addr) (c : Nat) (ns : List Nd) (A' : Option Addr) (c' : Nat) (vn : List Nat) (z : Nat) (w : World) (ht : Tbl w w.heap.size A ns) (hg : GoodT ns) (hv : Reads w w.heap.size 1 A' vn.length (ints (natInts vn))) (hin : ∀ v ∈ vn, v < ns.length) (hz : vn[vn.length - 1]? = some z) (hm : vn.length ≤ 10) :
    Calls Try.prog 41 #[.slice A ns.length c, .slice A' vn.length c'] w (ShPost (tr ns z).2 w) := by
  have HT := Lib.hid ht
  have HG := Lib.hid hg
  have HV := Lib.hid hv
  have HIN := Lib.hid hin
  have HZ := Lib.hid hz
  have hnl := hg.1
  have h0 : 0 < vn.length := by
    rcases Nat.eq_zero_or_pos vn.length with h | h
    · rw [List.getElem?_eq_none (by omega)] at hz; cases hz
    · exact h
  have HC := Lib.hid (zzBuild2_any A c ns w ht hg)
  clear ht hg hv hin hz
  go_enter Try.func41, Try.ntmps41
  go_wp2_with fail
  refine HC.out.mono ?_
  rintro e w1 ⟨A1, c1, qs, rfl, hown, hreps, hb1⟩
  have hql : qs.length = ns.length := by have := hown.1; simpa [ptrs] using this
  have hreps' : Reps2 w1 NoX (built ns) qs := ⟨fun i q hi => by
    obtain ⟨kf, h1, h2⟩ := hreps.1 i q hi
    exact ⟨kf, h1, h2.move (fun g cs e _ hx hg => ⟨hg, fun h => h⟩)⟩, fun q hq => (hreps.2 q hq).move (fun g cs e _ hx hg => ⟨hg, fun h => h⟩)⟩
  have HRD := Lib.hid (Reads.of_own hown)
  have HR := Lib.hid hreps'
  have HB1 := Lib.hid hb1
  have HV1 := Lib.hid (HV.out.ext hb1)
  have HCL := Lib.hid (cl_of_reps hreps')
  have HAT := Lib.hid (show ∀ (i : Nat) (q : Addr), qs[i]? = some q → Rep w1 NoX q (tr ns i).1 (tr ns i).2 from fun i q hi => by
    obtain ⟨kf, h1, h2⟩ := hreps'.1 i q hi
    have e1 : tr ns i = kf := by unfold tr; rw [List.getD_eq_getElem?_getD, h1]; rfl
    rw [e1]; exact h2)
  clear hown hreps hreps' hb1 HC
  go_wp2_with fail
  refine (newCache_any w1).mono ?_
  rintro e w2 ⟨ca, s, m, rfl, hcc, hb2⟩
  have HE2 := Lib.hid (show GE w1.heap.size qs ca s m w2 [] from ⟨hcc, List.nodup_nil, fun x hx => absurd hx (List.not_mem_nil)⟩)
  have HB2 := Lib.hid hb2
  clear hcc hb2
  go_wp2_with fail
  go_loopw [8, 16] (fun v i wr => ∃ (j : Nat) (es : List Ent), j ≤ vn.length ∧ i = .int .i64 j ∧ Hid (GE w1.heap.size qs ca s m wr es) ∧ Hid (Below w1.heap.size w1 wr) ∧ Hid (LastR ns vn qs wr j v)) (fun _ i _ => vn.length - (intOf i).toNat)
  case atStart => exact ⟨0, [], Nat.zero_le _, rfl, HE2, HB2, Lib.hid (.inl rfl)⟩
  case round =>
    obtain ⟨j, es, hj, rfl, HE, HBR, HLR⟩ := hrel
    by_cases hlt : j < vn.length
    · obtain ⟨b, off, u, rfl, _, hu, hc⟩ := (HV1.out.ext HBR.out).at1 hlt
      obtain ⟨v, hv, rfl⟩ := natInts_at hu
      have hvn := HIN.out v (List.mem_of_getElem? hv)
      obtain ⟨b2, off2, u2, rfl, _, hu2, hc2⟩ := HRD.out.at1 hvn
      obtain ⟨q, hq, rfl⟩ := ptrs_at hu2
      have HQ := Lib.hid hq
      have HVJ := Lib.hid hv
      have HC2 := Lib.hid hc2
      have hvn' : (v : Int) < (ns.length : Int) := by omega
      have hc2' := cell_bel hc2 HBR.out
      have HC2' := Lib.hid hc2'
      clear hu hv hu2 hq hc2 hc2'
      obtain ⟨wz, hwz⟩ : ∃ wz : World, wz = wr := ⟨_, rfl⟩
      rw [← hwz] at hc HE HBR HLR HC2' ⊢
      clear hwz
      go_wp2_with fail
      refine wp_region_order (fun w' => Below w1.heap.size w1 w') [0, 1, 2, 3, 4] [5, 6, 7] (by kernel_rfl) (by kernel_rfl) (HBR.out.drew) ?_
      repeat
        apply TakesThen.cons rfl rfl
        · intro w' hw'
          have x0 := cell_bel HC2.out hw'
          go_simp
          with_reducible rfl
        try simp only [Act.put, List.getElem_toArray, List.getElem_cons_succ, List.getElem_cons_zero, List.setIfInBounds_toArray, List.set_cons_zero, List.set_cons_succ]
      refine TakesThen.nil ?_
      refine Chain.step rfl rfl (fun K hK => ?_)
      go_simp
      refine (newVisit_any wz.drew).mono ?_
      rintro e w3 ⟨rfl, hvr, hb3⟩
      have HG3 := Lib.hid (GE.gs (w := wz.drew) (HE.out.below (below_drew' (Below.refl _ _))) hb3 hvr HBR.out.size (by omega))
      have HB3 := Lib.hid (below_trans HBR.out.drew hb3)
      have HST := Lib.hid ((Stay.of_below HBR.out).trans (Stay.of_below (below_trans (below_drew' (Below.refl wz.heap.size wz)) hb3)))
      clear hvr hb3
      refine hK _ _ HB3.out ?_
      clear hK
      try simp only [Act.put, List.getElem_toArray, List.getElem_cons_succ, List.getElem_cons_zero, List.setIfInBounds_toArray, List.set_cons_zero, List.set_cons_succ]
      have HGC := Lib.hid (gc_any w1.heap.size qs ca s m (wz.drew.heap.size + 1) wz.drew.heap.size (tr ns v).2 (tr ns v).1 q w3 es [] HG3.out ((HAT.out v q HQ.out).stay HST.out) (tr_wf HG.out (v + 1) v (Nat.lt_succ_self _) hvn) (List.mem_of_getElem? HQ.out) (HCL.out.stay HST.out))
      refine Chain.step rfl rfl (fun K hK => ?_)
      go_simp
      refine HGC.out.mono ?_
      rintro e w4 ⟨q4, es4, D4, rfl, hq4, hr4, hg4, _, _, hb4⟩
      have HE4 := Lib.hid hg4.ge
      have HB4 := Lib.hid (HB3.out.trans hb4)
      have HL4 := Lib.hid (show LastR ns vn qs w4 (j + 1) (.pointer (some q4)) from .inr ⟨q4, v, rfl, hq4, HVJ.out, hr4⟩)
      clear hq4 hr4 hg4 hb4 HGC
      refine hK _ _ HB4.out ?_
      clear hK
      try simp only [Act.put, List.getElem_toArray, List.getElem_cons_succ, List.getElem_cons_zero, List.setIfInBounds_toArray, List.set_cons_zero, List.set_cons_succ]
      refine Chain.last (by kernel_rfl) rfl rfl (fun K hK => ?_)
      go_simp
      refine hK _ _ ?_
      clear hK
      refine NoPanic.normal ?_
      go_wp2_with fail
      go_roundw
      case rel => exact ⟨j + 1, es4, by omega, by go_num, HE4, HB4, HL4⟩
      case measure => simp [intOf]; omega
    · have hje : j = vn.length := by omega
      subst hje
      rcases HLR.out with h | ⟨q, k, rfl, hqS, hk, hq⟩
      · omega
      rw [HZ.out] at hk
      cases hk
      have hzl := HIN.out z (List.mem_of_getElem? HZ.out)
      have HZT := Lib.hid (zzTable_any qs q (tr ns z).1 (tr ns z).2 wr hq (tr_wf HG.out (z + 1) z (Nat.lt_succ_self _) hzl) (tr_srt HG.out (z + 1) z (Nat.lt_succ_self _) hzl) hqS (HCL.out.stay (Stay.of_below HBR.out)) (by omega))
      clear hq hqS HLR
      go_wp2_with fail
      refine HZT.out.mono ?_
      rintro e w3 ⟨A3, c3, ms, rfl, htb, hgd, h03, hle, htr, hb3⟩
      have HTB := Lib.hid htb
      have HGD := Lib.hid hgd
      have HTR := Lib.hid htr
      have HB3 := Lib.hid (below_trans (below_trans HB1.out HBR.out) hb3)
      have HLC := Lib.hid (length_cache _ w3 ca s m es (HE.out.1.below hb3))
      clear htb hgd htr hb3 HZT
      go_wp2_with fail
      refine HLC.out.mono ?_
      rintro e w' ⟨n, hn, rfl, rfl⟩
      clear HLC
      go_wp2_with fail
      go_ret2
      exact ⟨A3, c3, ms, n, rfl, hn, HTB.out, HGD.out, h03, by omega, HTR.out, HB3.out⟩
set_option maxRecDepth 20000 in
set_option maxHeartbeats 1000000 in
theorem implShare_any (A : Option Addr) (c : Nat) (ns : List Nd) (A' : Option Addr) (c' : Nat) (vn : List Nat) (z : Nat) (w : World) (ht : Tbl w w.heap.size A ns) (hg : GoodT ns) (hv : Reads w w.heap.size 1 A' vn.length (ints (natInts vn))) (hin : ∀ v ∈ vn, v < ns.length) (hz : vn[vn.length - 1]? = some z) (hm : vn.length ≤ 10) :
    Calls Try.prog 26 #[.slice A ns.length c, .slice A' vn.length c'] w (ShPost (tr ns z).2 w) := by
  obtain ⟨i0, hi0, hz0, hz1, hz2⟩ := info_parts int_info
  have HT := Lib.hid ht
  have HG := Lib.hid hg
  have HV := Lib.hid hv
  have HIN := Lib.hid hin
  have HZ := Lib.hid hz
  clear ht hg hv hin hz
  go_enter Try.func26, Try.ntmps26
  go_wp2_with fail
  refine (implNodes_any A c ns w HT.out HG.out).mono ?_
  rintro e w1 ⟨v, rfl, hown, hb1⟩
  obtain ⟨A1, c1, rfl, ht1⟩ := hown.tbl
  have HT1 := Lib.hid ht1
  have HB1 := Lib.hid hb1
  have HV1 := Lib.hid (HV.out.ext hb1)
  clear hown ht1 hb1
  go_wp2_with (first
    | (at_builtin
       refine wpList_append_any _ rfl (.tmp 11) (.tmp 12) _ rfl w1.heap.size 3 i0 _ 1 8 Try.underlying22 hi0 hz0 hz1 hz2 rfl (by omega) (.slice (some ⟨w1.heap.size, 0, none⟩) 0 0) 0 [] rfl (World.ownsRow_made w1 #[] 0 (Nat.le_refl _) (by simp [maxLen]) rfl) _ A' vn.length c' (ints (natInts vn)) rfl (HV1.out.ext (below_alloc' (Below.refl _ _) _)) (ints_one _) (by simp only [maxLen]; omega) (by omega) (by simp) ?_
       intro v1 w2 hown1 hgr1 _))
  have hb2 : Below w1.heap.size w1 w2 := ((Below.refl _ _).alloc (Nat.le_refl _) _).grown hgr1 (by simp) (by simp [Value.ownBlock])
  rw [Nat.zero_add, List.nil_append] at hown1
  obtain ⟨A3, c3, rfl, hr3⟩ := own_slice hown1
  have HR3 := Lib.hid hr3
  have HB2 := Lib.hid (below_trans HB1.out hb2)
  have HT2 := Lib.hid (HT1.out.ext hb2)
  clear hown1 hgr1 hb2 hr3
  go_wp2_with fail
  refine (ZZShare_any A1 c1 ns A3 c3 vn z w2 HT2.out HG.out HR3.out HIN.out HZ.out hm).mono ?_
  rintro e w3 ⟨A4, c4, ms, n, rfl, hn, htb, hgd, h0, hle, htr, hb3⟩
  have HB3 := Lib.hid (below_trans HB2.out hb3)
  have HTB := Lib.hid htb
  have HGD := Lib.hid hgd
  have HTR := Lib.hid htr
  clear hb3 htb hgd htr
  go_wp2_with fail
  refine (back_tab A4 c4 10 ms w3 HTB.out HGD.out (by omega) hle).mono ?_
  rintro e w4 ⟨A5, c5, rfl, ht5, hb5⟩
  have HFIN := Lib.hid (show ShPost (tr ns z).2 w (.returned (.tuple #[.slice A5 ms.length c5, .int .i64 n])) w4 from ⟨A5, c5, ms, n, rfl, hn, ht5, HGD.out, h0, hle, HTR.out, below_trans HB3.out hb5⟩)
  clear ht5 hb5
  go_wp2_with fail
  go_ret2
  exact HFIN.out
end Go.Proofs.Ytcbabfndfikejaa
