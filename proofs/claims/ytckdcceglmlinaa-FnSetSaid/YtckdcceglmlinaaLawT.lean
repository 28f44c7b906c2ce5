/- The walk of the law FnSet. No condition but the bound on the length. -/
import Derived.Test.YtckdcceglmlinaaLawS
namespace Go.Proofs.Ytckdcceglmlinaa
open Go.RowKit
set_option linter.unusedSimpArgs false

set_option maxHeartbeats 2000000 in
theorem lawSet_any (A : Option Addr) (c : Nat) (sts : List St) (w : World) (h : Reads w w.heap.size 3 A sts.length (flat3 sts)) (hm : sts.length ≤ 9223372036854775807) :
    Calls Try.prog 7 #[.slice A sts.length c] w (Yes w) := by
  have H := Lib.hid h
  clear h
  by_cases h1 : sts.length ≤ 2147483647
  · have HI : Hid (StIn w A sts) := Lib.hid ⟨H.out, h1⟩
    go_enter Try.func7, Try.ntmps7
    go_wp2_with fail
    refine (stepsIn_any A c sts w HI.out).mono ?_
    rintro e w1 ⟨A1, c1, rfl, hi1, hb1⟩
    have HI1 := Lib.hid hi1
    have HB1 := Lib.hid hb1
    clear hi1 hb1
    go_wp2_with fail
    refine (spec_any A1 c1 sts w1 HI1.out).mono ?_
    rintro e w2 ⟨A2, c2, bs, ok, rfl, hsm, hok, hr2, hb2⟩
    have HSM := Lib.hid hsm
    have HOK := Lib.hid hok
    have HR2 := Lib.hid hr2
    have HB2 := Lib.hid (below_trans HB1.out hb2)
    have hl4 := hsm.1
    clear hsm hok hr2 hb2
    cases ok
    · go_wp2_with fail
      go_ret
      exact ⟨rfl, HB2.out⟩
    · have HRB := Lib.hid (HOK.out rfl)
      generalize hL : rangesF bs = L at *
      have HL := Lib.hid hL
      clear hL
      go_wp2_with fail
      refine (implLength_any A c sts bs w2 (HI.out.ext HB2.out) HRB.out).mono ?_
      rintro e w3 ⟨rfl, hb3⟩
      have HB3 := Lib.hid (below_trans HB2.out hb3)
      have HR3 := Lib.hid (HR2.out.ext hb3)
      clear hb3
      rw [HL.out]
      go_wp2_with fail
      refine (count_any A2 c2 L w3 HR3.out HSM.out).mono ?_
      rintro e w4 ⟨rfl, hb4⟩
      have HB4 := Lib.hid (below_trans HB3.out hb4)
      have HR4 := Lib.hid (HR3.out.ext hb4)
      clear hb4
      go_wp2_with fail
      refine (implSet_any A c sts bs w4 (HI.out.ext HB4.out) HRB.out).mono ?_
      rintro e w5 ⟨A5, c5, rfl, hr5, hb5⟩
      rw [HL.out] at hr5 ⊢
      have HX5 := Lib.hid hr5
      have HB5 := Lib.hid (below_trans HB4.out hb5)
      have HR5 := Lib.hid (HR4.out.ext hb5)
      clear hb5 hr5
      go_wp2_with fail
      refine (lawsRanges_any A5 c5 L w5 HX5.out hl4).mono ?_
      rintro e w6 ⟨A6, c6, rfl, hown6, hb6⟩
      have HX6 := Lib.hid (Reads.of_own hown6)
      have HB6 := Lib.hid (below_trans HB5.out hb6)
      have HR6 := Lib.hid (HR5.out.ext hb6)
      clear hb6 hown6
      go_wp2_with fail
      refine (sameRanges_any A6 A2 c6 c2 L L w6 HX6.out HR6.out hl4).mono ?_
      rintro e w7 ⟨rfl, hb7⟩
      rw [eqS_same]
      have HB7 := Lib.hid (below_trans HB6.out hb7)
      clear hb7
      by_cases h0 : L.length = 0
      · have hn2 : (L.length : Int) = 0 := by omega
        have HF := Lib.hid (show firstS L = 0 by rw [List.eq_nil_of_length_eq_zero h0]; rfl)
        clear h0
        go_wp2_with fail
        refine (implFirst_any A c sts bs w7 (HI.out.ext HB7.out) HRB.out).mono ?_
        rintro e w8 ⟨rfl, hb8⟩
        have HB8 := Lib.hid (below_trans HB7.out hb8)
        clear hb8
        rw [HL.out, HF.out]
        go_wp2_with fail
        go_ret
        exact ⟨by simp, HB8.out⟩
      · have hn0 : 0 < L.length := by omega
        go_wp2_with fail
        go_ret
        exact ⟨by simp, HB7.out⟩
  · go_enter Try.func7, Try.ntmps7
    go_wp2_with fail
    go_ret
    exact ⟨rfl, Below.refl _ _⟩
end Go.Proofs.Ytckdcceglmlinaa
