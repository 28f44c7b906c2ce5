/- The law FnShare: its walk. No condition but that the table and the numbers read. -/
import Derived.Test.YtcbabfndfikejaaShr
namespace Go.Proofs.Ytcbabfndfikejaa
open Go.RowKit
set_option linter.unusedSimpArgs false

set_option maxRecDepth 20000 in
set_option maxHeartbeats 4000000 in
theorem lawShare_any (A : Option Addr) (c : Nat) (ns : List Nd) (A' : Option Addr) (c' : Nat) (vs : List Int) (w : World) (ht : Tbl w w.heap.size A ns) (hm : ns.length ≤ 9223372036854775807) (hv : Reads w w.heap.size 1 A' vs.length (ints vs)) (hmv : vs.length ≤ 9223372036854775807) :
    Calls Try.prog 8 #[.slice A ns.length c, .slice A' vs.length c'] w (Yes w) := by
  have HT := Lib.hid ht
  have HV := Lib.hid hv
  clear ht hv
  go_enter Try.func8, Try.ntmps8
  go_wp2_with fail
  refine (zzFits1_any A c ns w HT.out hm).mono ?_
  rintro e w1 ⟨r, rfl, hr, hb1⟩
  cases r
  · go_wp2_with fail
    go_ret
    exact ⟨rfl, hb1⟩
  have hm' := hr rfl
  clear hr
  have HB1 := Lib.hid hb1
  clear hb1
  by_cases hvl : vs.length ≤ 2147483647
  · go_wp2_with fail
    refine (lawsNodes_tbl A c ns w1 (HT.out.ext HB1.out) hm').mono ?_
    rintro e w2 ⟨A2, c2, rfl, ht2, hb2⟩
    have HT2 := Lib.hid ht2
    have HB2 := Lib.hid (below_trans HB1.out hb2)
    clear ht2 hb2
    go_wp2_with fail
    refine (specGood_any A2 c2 ns w2 HT2.out hm').mono ?_
    rintro e w3 ⟨r, rfl, hr, hb3⟩
    have HB3 := Lib.hid (below_trans HB2.out hb3)
    have HT3 := Lib.hid (HT2.out.ext hb3)
    clear hb3
    cases r
    · go_wp2_with fail
      go_ret
      exact ⟨rfl, HB3.out⟩
    have HG := Lib.hid (hr rfl)
    clear hr
    go_wp2_with fail
    refine (specAllIn_any A2 ns.length c2 A' c' vs w3 (HV.out.ext HB3.out) hvl).mono ?_
    rintro e w4 ⟨r, rfl, hr, rfl⟩
    cases r
    · go_wp2_with fail
      go_ret
      exact ⟨rfl, HB3.out⟩
    obtain ⟨hin, h10⟩ := hr rfl
    obtain ⟨vn, hvn, hin'⟩ := nat_of_ints hin
    clear hr hin hvl hmv
    subst hvn
    rw [natInts_len] at *
    have HIN := Lib.hid hin'
    clear hin'
    by_cases h0 : vn.length = 0
    · have hz : ((vn.length : Int) == 0) = true := by rw [beq_iff_eq]; omega
      have hz2 : (vn.length : Int) = 0 := by omega
      clear h0
      go_wp2_with fail
      go_ret
      exact ⟨rfl, HB3.out⟩
    · have hz : ((vn.length : Int) == 0) = false := by rw [beq_eq_false_iff_ne]; omega
      have hz2 : ¬ (vn.length : Int) = 0 := by omega
      obtain ⟨t, hvt⟩ : ∃ t, vn.length = t + 1 := ⟨vn.length - 1, by omega⟩
      have htl : t < vn.length := by omega
      have hzt := List.getElem?_eq_getElem (show vn.length - 1 < vn.length by omega)
      generalize vn[vn.length - 1] = z at hzt
      have HZ := Lib.hid hzt
      have hzt' : vn[t]? = some z := by rw [← hzt]; congr 1; omega
      have HZ' := Lib.hid hzt'
      have hzl := HIN.out z (List.mem_of_getElem? hzt)
      have hsub : IntKind.i64.wrap ((vn.length : Int) - 1) = (t : Int) := by rw [IntKind.wrap_i64]; omega
      have HSH := Lib.hid (implShare_any A c ns A' c' vn z w3 (HT.out.ext HB3.out) HG.out (HV.out.ext HB3.out) HIN.out hzt h10)
      clear hzt hzt' hvt h0
      go_wp2_with fail
      refine HSH.out.mono ?_
      rintro e w5 ⟨A5, c5, ms, n, rfl, hn, ht5, hgd, h05, hle5, htr, hb5⟩
      have HT5 := Lib.hid ht5
      have HGD := Lib.hid hgd
      have HTR := Lib.hid htr
      have HB5 := Lib.hid (below_trans HB3.out hb5)
      have HT35 := Lib.hid (HT3.out.ext hb5)
      clear ht5 hgd htr hb5 HSH
      go_wp2_with fail
      refine (lawsNodes_tbl A5 c5 ms w5 HT5.out (by omega)).mono ?_
      rintro e w6 ⟨A6, c6, rfl, ht6, hb6⟩
      have HT6 := Lib.hid ht6
      have HT56 := Lib.hid (HT5.out.ext hb6)
      have HT36 := Lib.hid (HT35.out.ext hb6)
      have HB6 := Lib.hid (below_trans HB5.out hb6)
      clear ht6 hb6
      have HLS := Lib.hid (lawStacks_any A5 c5 ms w6 HT56.out HGD.out h05 (by omega))
      go_wp2_with fail
      refine HLS.out.mono ?_
      rintro e w7 ⟨v7, L7, rfl, _, _, hb7⟩
      have HB7 := Lib.hid (below_trans HB6.out hb7)
      have HT67 := Lib.hid (HT6.out.ext hb7)
      have HT37 := Lib.hid (HT36.out.ext hb7)
      clear hb7 HLS
      rw [HTR.out, nrm_stkOf]
      obtain ⟨b, off, u, rfl, _, hu, hc⟩ := (HV.out.ext HB7.out).at1 htl
      obtain ⟨z', hz', rfl⟩ := natInts_at hu
      rw [HZ'.out] at hz'
      cases hz'
      clear hu
      have g6 : (t : Int) < (vn.length : Int) := by omega
      by_cases h120 : (stkOf (tr ns z).2).length ≤ 120
      · rw [decide_eq_true h120]
        have hge : (0 : Int) ≤ n := hn
        obtain ⟨q, hq⟩ : ∃ q, ms.length = q + 1 := ⟨ms.length - 1, by omega⟩
        have hsub2 : IntKind.i64.wrap ((ms.length : Int) - 1) = (q : Int) := by rw [IntKind.wrap_i64]; omega
        have HAL := Lib.hid (alike_any q z ms ns A6 A2 c6 c2 w7 (HGD.out.tab (by omega)) HG.out.tab HT67.out HT37.out (by omega) hzl)
        have HYES := Lib.hid (show alk ms q ns z = true from decide_eq_true (by
          rw [show q = ms.length - 1 by omega, HTR.out]
          exact (tr_nrm HG.out.tab (z + 1) z (Nat.lt_succ_self _) hzl).symm))
        clear hq h120
        go_wp2_with fail
        refine HAL.out.mono ?_
        rintro e w8 ⟨rfl, hb8⟩
        rw [HYES.out]
        have HB8 := Lib.hid (below_trans HB7.out hb8)
        clear hb8 HAL
        go_wp2_with fail
        go_ret
        exact ⟨rfl, HB8.out⟩
      · have HST := Lib.hid (stacks_any z ns A2 c2 w7 HG.out.tab HT37.out hzl)
        have HNO := Lib.hid (decide_eq_false h120)
        rw [HNO.out]
        clear h120
        go_wp2_with fail
        refine HST.out.mono ?_
        rintro e w8 ⟨v8, L8, rfl, _, _, hb8⟩
        rw [HNO.out]
        have HB8 := Lib.hid (below_trans HB7.out hb8)
        clear hb8 HST
        go_wp2_with fail
        go_ret
        exact ⟨rfl, HB8.out⟩
  · go_wp2_with fail
    go_ret
    exact ⟨rfl, HB1.out⟩
end Go.Proofs.Ytcbabfndfikejaa
