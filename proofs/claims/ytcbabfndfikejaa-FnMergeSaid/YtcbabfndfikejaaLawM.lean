/- The laws FnMerge, FnMergeWild and FnMergeBack: their walks. Condition: none but that the table reads. -/
import Derived.Test.YtcbabfndfikejaaOwe
namespace Go.Proofs.Ytcbabfndfikejaa
open Go.RowKit
set_option linter.unusedSimpArgs false

set_option maxHeartbeats 4000000 in
theorem lawMerge_any (A : Option Addr) (c : Nat) (ns : List Nd) (a b : Int) (cached : Bool) (w : World) (ht : Tbl w w.heap.size A ns) (hm : ns.length ≤ 9223372036854775807) :
    Calls Try.prog 9 #[.slice A ns.length c, .int .i64 a, .int .i64 b, .bool cached] w (Yes w) := by
  have HT := Lib.hid ht
  clear ht
  go_enter Try.func9, Try.ntmps9
  go_wp2_with fail
  refine (zzFits1_any A c ns w HT.out hm).mono ?_
  rintro e w1 ⟨r, rfl, hr, hb1⟩
  cases r
  · go_wp2_with fail
    go_ret
    exact ⟨rfl, hb1⟩
  have hm' := hr rfl
  clear hr
  have HB1 := Lib.hid hb1
  clear hb1
  go_wp2_with fail
  refine (two_any A c ns a b w1 (HT.out.ext HB1.out) hm').mono ?_
  rintro e w2 ⟨A2, c2, L, ok, rfl, hok, hst, hb2⟩
  have HST := Lib.hid hst
  have HB2 := Lib.hid (below_trans HB1.out hb2)
  have HOK := Lib.hid hok
  clear hst hb2 hok
  cases ok
  · go_wp2_with fail
    go_ret
    exact ⟨rfl, HB2.out⟩
  obtain ⟨hg, ka, kb, rfl, rfl, hka, hkb, hL, h120⟩ := HOK.out rfl
  have HG := Lib.hid hg
  have HL := Lib.hid hL
  have HKA := Lib.hid hka
  have HKB := Lib.hid hkb
  have H120 := Lib.hid h120
  have HSM := Lib.hid (show SmL L by rw [hL]; exact ⟨by omega, both_stk hg hka hkb⟩)
  clear hg hL HOK hka hkb h120
  have HAP := Lib.hid (Apart_any A2 c2 L w2 HST.out HSM.out)
  go_wp2_with fail
  refine HAP.out.mono ?_
  rintro e w3 ⟨rfl, hd⟩
  have HB3 := Lib.hid (below_trans HB2.out hd.below)
  have HST3 := Lib.hid (HST.out.ext hd.below)
  clear hd HAP
  cases hap : apartB L
  · go_wp2_with fail
    go_ret
    exact ⟨rfl, HB3.out⟩
  have HAQ := Lib.hid (apartB_iff.1 hap)
  clear hap
  have HC4 := Lib.hid (merge_tab HG.out HKA.out HKB.out H120.out false cached A c w3 (HT.out.ext HB3.out))
  go_wp2_with fail
  refine HC4.out.mono ?_
  rintro e w4 ⟨A41, c41, ms4, rfl, ht, hgd, h0, hle, htr, hb⟩
  have HT4 := Lib.hid ht
  have HB41 := Lib.hid (below_trans HB3.out hb)
  have HGD4 := Lib.hid hgd
  have HTR4 := Lib.hid htr
  have HSTB := Lib.hid (HST3.out.ext hb)
  clear ht hgd htr hb HC4
  go_wp2_with fail
  refine (lawStacks_any A41 c41 ms4 w4 HT4.out HGD4.out h0 hle).mono ?_
  rintro e w5 ⟨v4, L4, rfl, hL, hown, hb⟩
  rw [HTR4.out, nrm_stkOf] at hL ⊢
  rw [if_pos (mg_len HG.out HKA.out HKB.out H120.out false)] at hL
  rw [decide_eq_true (mg_len HG.out HKA.out HKB.out H120.out false)]
  obtain ⟨A42, c42, rfl, hst⟩ := hown.stks
  have HST4 := Lib.hid hst
  have HB42 := Lib.hid (below_trans HB41.out hb)
  have HL4 := Lib.hid hL
  have HSTC := Lib.hid (HSTB.out.ext hb)
  clear hown hst hb hL
  have HSM4 := Lib.hid (show SmL L4 by rw [HL4.out]; exact mg_small HG.out HKA.out HKB.out H120.out false)
  go_wp2_with fail
  refine (Same_any false A42 A2 c42 c2 L4 L w5 HST4.out HSM4.out HSTC.out HSM.out).mono ?_
  rintro e w6 ⟨rfl, hd⟩
  rw [sameB_of (wild := false) (L := L4) (M := L) (fun st => by rw [HL4.out, HL.out]; exact mg_has HG.out HKA.out HKB.out (.inr (by rw [← HL.out]; exact HAQ.out)) st)]
  have HB6 := Lib.hid (below_trans HB42.out hd.below)
  clear hd
  go_wp2_with fail
  go_ret
  exact ⟨by simp, HB6.out⟩
set_option maxHeartbeats 4000000 in
theorem lawMergeWild_any (A : Option Addr) (c : Nat) (ns : List Nd) (a b : Int) (cached : Bool) (w : World) (ht : Tbl w w.heap.size A ns) (hm : ns.length ≤ 9223372036854775807) :
    Calls Try.prog 12 #[.slice A ns.length c, .int .i64 a, .int .i64 b, .bool cached] w (Yes w) := by
  have HT := Lib.hid ht
  clear ht
  go_enter Try.func12, Try.ntmps12
  go_wp2_with fail
  refine (zzFits1_any A c ns w HT.out hm).mono ?_
  rintro e w1 ⟨r, rfl, hr, hb1⟩
  cases r
  · go_wp2_with fail
    go_ret
    exact ⟨rfl, hb1⟩
  have hm' := hr rfl
  clear hr
  have HB1 := Lib.hid hb1
  clear hb1
  go_wp2_with fail
  refine (two_any A c ns a b w1 (HT.out.ext HB1.out) hm').mono ?_
  rintro e w2 ⟨A2, c2, L, ok, rfl, hok, hst, hb2⟩
  have HST := Lib.hid hst
  have HB2 := Lib.hid (below_trans HB1.out hb2)
  have HOK := Lib.hid hok
  clear hst hb2 hok
  cases ok
  · go_wp2_with fail
    go_ret
    exact ⟨rfl, HB2.out⟩
  obtain ⟨hg, ka, kb, rfl, rfl, hka, hkb, hL, h120⟩ := HOK.out rfl
  have HG := Lib.hid hg
  have HL := Lib.hid hL
  have HKA := Lib.hid hka
  have HKB := Lib.hid hkb
  have H120 := Lib.hid h120
  have HSM := Lib.hid (show SmL L by rw [hL]; exact ⟨by omega, both_stk hg hka hkb⟩)
  clear hg hL HOK hka hkb h120
  have HC4 := Lib.hid (merge_tab HG.out HKA.out HKB.out H120.out true cached A c w2 (HT.out.ext HB2.out))
  go_wp2_with fail
  refine HC4.out.mono ?_
  rintro e w4 ⟨A41, c41, ms4, rfl, ht, hgd, h0, hle, htr, hb⟩
  have HT4 := Lib.hid ht
  have HB41 := Lib.hid (below_trans HB2.out hb)
  have HGD4 := Lib.hid hgd
  have HTR4 := Lib.hid htr
  have HSTB := Lib.hid (HST.out.ext hb)
  clear ht hgd htr hb HC4
  go_wp2_with fail
  refine (lawStacks_any A41 c41 ms4 w4 HT4.out HGD4.out h0 hle).mono ?_
  rintro e w5 ⟨v4, L4, rfl, hL, hown, hb⟩
  rw [HTR4.out, nrm_stkOf] at hL ⊢
  rw [if_pos (mg_len HG.out HKA.out HKB.out H120.out true)] at hL
  rw [decide_eq_true (mg_len HG.out HKA.out HKB.out H120.out true)]
  obtain ⟨A42, c42, rfl, hst⟩ := hown.stks
  have HST4 := Lib.hid hst
  have HB42 := Lib.hid (below_trans HB41.out hb)
  have HL4 := Lib.hid hL
  have HSTC := Lib.hid (HSTB.out.ext hb)
  clear hown hst hb hL
  have HSM4 := Lib.hid (show SmL L4 by rw [HL4.out]; exact mg_small HG.out HKA.out HKB.out H120.out true)
  go_wp2_with fail
  refine (Same_any true A42 A2 c42 c2 L4 L w5 HST4.out HSM4.out HSTC.out HSM.out).mono ?_
  rintro e w6 ⟨rfl, hd⟩
  rw [sameB_of (wild := true) (L := L4) (M := L) (fun st => by rw [HL4.out, HL.out]; exact mg_has HG.out HKA.out HKB.out (.inl rfl) st)]
  have HB6 := Lib.hid (below_trans HB42.out hd.below)
  clear hd
  go_wp2_with fail
  go_ret
  exact ⟨by simp, HB6.out⟩
set_option maxHeartbeats 4000000 in
theorem lawMergeBack_any (A : Option Addr) (c : Nat) (ns : List Nd) (a b : Int) (wild : Bool) (w : World) (ht : Tbl w w.heap.size A ns) (hm : ns.length ≤ 9223372036854775807) :
    Calls Try.prog 10 #[.slice A ns.length c, .int .i64 a, .int .i64 b, .bool wild] w (Yes w) := by
  have HT := Lib.hid ht
  clear ht
  go_enter Try.func10, Try.ntmps10
  go_wp2_with fail
  refine (zzFits1_any A c ns w HT.out hm).mono ?_
  rintro e w1 ⟨r, rfl, hr, hb1⟩
  cases r
  · go_wp2_with fail
    go_ret
    exact ⟨rfl, hb1⟩
  have hm' := hr rfl
  clear hr
  have HB1 := Lib.hid hb1
  clear hb1
  go_wp2_with fail
  refine (two_any A c ns a b w1 (HT.out.ext HB1.out) hm').mono ?_
  rintro e w2 ⟨A2, c2, L, ok, rfl, hok, hst, hb2⟩
  have HST := Lib.hid hst
  have HB2 := Lib.hid (below_trans HB1.out hb2)
  have HOK := Lib.hid hok
  clear hst hb2 hok
  cases ok
  · go_wp2_with fail
    go_ret
    exact ⟨rfl, HB2.out⟩
  obtain ⟨hg, ka, kb, rfl, rfl, hka, hkb, hL, h120⟩ := HOK.out rfl
  have HG := Lib.hid hg
  have HL := Lib.hid hL
  have HKA := Lib.hid hka
  have HKB := Lib.hid hkb
  have H120 := Lib.hid h120
  have HSM := Lib.hid (show SmL L by rw [hL]; exact ⟨by omega, both_stk hg hka hkb⟩)
  clear hg hL HOK hka hkb h120
  have HC4 := Lib.hid (merge_tab HG.out HKA.out HKB.out H120.out wild true A c w2 (HT.out.ext HB2.out))
  go_wp2_with fail
  refine HC4.out.mono ?_
  rintro e w4 ⟨A41, c41, ms4, rfl, ht, hgd, h0, hle, htr, hb⟩
  have HT4 := Lib.hid ht
  have HB41 := Lib.hid (below_trans HB2.out hb)
  have HGD4 := Lib.hid hgd
  have HTR4 := Lib.hid htr
  clear ht hgd htr hb HC4
  go_wp2_with fail
  refine (lawStacks_any A41 c41 ms4 w4 HT4.out HGD4.out h0 hle).mono ?_
  rintro e w5 ⟨v4, L4, rfl, hL, hown, hb⟩
  rw [HTR4.out, nrm_stkOf] at hL ⊢
  rw [if_pos (mg_len HG.out HKA.out HKB.out H120.out wild)] at hL
  rw [decide_eq_true (mg_len HG.out HKA.out HKB.out H120.out wild)]
  obtain ⟨A42, c42, rfl, hst⟩ := hown.stks
  have HST4 := Lib.hid hst
  have HB42 := Lib.hid (below_trans HB41.out hb)
  have HL4 := Lib.hid hL
  clear hown hst hb hL
  have H121 := Lib.hid (show (both ns kb ka).length ≤ 120 by have := H120.out; unfold both at this ⊢; rw [List.length_append] at this ⊢; omega)
  have HC6 := Lib.hid (merge_tab HG.out HKB.out HKA.out H121.out wild false A c w5 (HT.out.ext HB42.out))
  go_wp2_with fail
  refine HC6.out.mono ?_
  rintro e w6 ⟨A61, c61, ms6, rfl, ht, hgd, h0, hle, htr, hb⟩
  have HT6 := Lib.hid ht
  have HB61 := Lib.hid (below_trans HB42.out hb)
  have HGD6 := Lib.hid hgd
  have HTR6 := Lib.hid htr
  have HSTB := Lib.hid (HST4.out.ext hb)
  clear ht hgd htr hb HC6
  go_wp2_with fail
  refine (lawStacks_any A61 c61 ms6 w6 HT6.out HGD6.out h0 hle).mono ?_
  rintro e w7 ⟨v6, L6, rfl, hL, hown, hb⟩
  rw [HTR6.out, nrm_stkOf] at hL ⊢
  rw [if_pos (mg_len HG.out HKB.out HKA.out H121.out wild)] at hL
  rw [decide_eq_true (mg_len HG.out HKB.out HKA.out H121.out wild)]
  obtain ⟨A62, c62, rfl, hst⟩ := hown.stks
  have HST6 := Lib.hid hst
  have HB62 := Lib.hid (below_trans HB61.out hb)
  have HL6 := Lib.hid hL
  have HSTC := Lib.hid (HSTB.out.ext hb)
  clear hown hst hb hL
  have HSM4 := Lib.hid (show SmL L4 by rw [HL4.out]; exact mg_small HG.out HKA.out HKB.out H120.out wild)
  have HSM6 := Lib.hid (show SmL L6 by rw [HL6.out]; exact mg_small HG.out HKB.out HKA.out H121.out wild)
  go_wp2_with fail
  refine (Same_any wild A42 A62 c42 c62 L4 L6 w7 HSTC.out HSM4.out HST6.out HSM6.out).mono ?_
  rintro e w8 ⟨rfl, hd⟩
  rw [sameB_of (wild := wild) (L := L4) (M := L6) (fun st => by rw [HL4.out, HL6.out, mg_comm (tr_made HG.out HKA.out).wf (tr_made HG.out HKB.out).wf])]
  have HB8 := Lib.hid (below_trans HB62.out hd.below)
  clear hd
  go_wp2_with fail
  go_ret
  exact ⟨by simp, HB8.out⟩
end Go.Proofs.Ytcbabfndfikejaa
