/- The walks of the laws FnSameSets, FnContains, FnLength, FnSet. No condition but the bound on the length. -/
import Derived.Test.YtckdcceglmlinaaImpl
namespace Go.Proofs.Ytckdcceglmlinaa
open Go.RowKit
set_option linter.unusedSimpArgs false

def Yes (w : World) (e : Ending) (w' : World) : Prop := e = .returned (.bool true) ∧ Below w.heap.size w w'
theorem eqS_same (L : List Rg) : eqS L L = true := eqS_true rfl

set_option maxHeartbeats 2000000 in
theorem lawSame_any (A A' : Option Addr) (c c' : Nat) (sts sts' : List St) (w : World) (h : Reads w w.heap.size 3 A sts.length (flat3 sts)) (h' : Reads w w.heap.size 3 A' sts'.length (flat3 sts')) (hm : sts.length ≤ 9223372036854775807) (hm' : sts'.length ≤ 9223372036854775807) :
    Calls Try.prog 3 #[.slice A sts.length c, .slice A' sts'.length c'] w (Yes w) := by
  have H := Lib.hid h
  have H' := Lib.hid h'
  clear h h'
  by_cases h1 : sts.length ≤ 2147483647
  · by_cases h2 : sts'.length ≤ 2147483647
    · have HI : Hid (StIn w A sts) := Lib.hid ⟨H.out, h1⟩
      have HI' : Hid (StIn w A' sts') := Lib.hid ⟨H'.out, h2⟩
      go_enter Try.func3, Try.ntmps3
      go_wp2_with fail
      refine (stepsIn_any A c sts w HI.out).mono ?_
      rintro e w1 ⟨A1, c1, rfl, hi1, hb1⟩
      have HI1 := Lib.hid hi1
      have HB1 := Lib.hid hb1
      clear hi1 hb1
      go_wp2_with fail
      refine (spec_any A1 c1 sts w1 HI1.out).mono ?_
      rintro e w2 ⟨A2, c2, bs, ok, rfl, hsm, hok, hr2, hb2⟩
      have HSM := Lib.hid hsm
      have HOK := Lib.hid hok
      have HR2 := Lib.hid hr2
      have HB2 := Lib.hid (below_trans HB1.out hb2)
      clear hsm hok hr2 hb2
      go_wp2_with fail
      refine (stepsIn_any A' c' sts' w2 (HI'.out.ext HB2.out)).mono ?_
      rintro e w3 ⟨A3, c3, rfl, hi3, hb3⟩
      have HI3 := Lib.hid hi3
      have HR3 := Lib.hid (HR2.out.ext hb3)
      have HB3 := Lib.hid (below_trans HB2.out hb3)
      clear hi3 hb3
      go_wp2_with fail
      refine (spec_any A3 c3 sts' w3 HI3.out).mono ?_
      rintro e w4 ⟨A4, c4, bs', ok', rfl, hsm, hok, hr4, hb4⟩
      have HSM' := Lib.hid hsm
      have HOK' := Lib.hid hok
      have HR4 := Lib.hid hr4
      have HR5 := Lib.hid (HR3.out.ext hb4)
      have HB4 := Lib.hid (below_trans HB3.out hb4)
      clear hsm hok hr4 hb4
      have hl4 := HSM'.out.1
      cases ok
      · go_wp2_with fail
        go_ret
        exact ⟨rfl, HB4.out⟩
      · cases ok'
        · go_wp2_with fail
          go_ret
          exact ⟨rfl, HB4.out⟩
        · have HRB := Lib.hid (HOK.out rfl)
          have HRB' := Lib.hid (HOK'.out rfl)
          go_wp2_with fail
          refine (implSame_any A A' c c' sts sts' bs bs' w4 (HI.out.ext HB4.out) HRB.out (HI'.out.ext HB4.out) HRB'.out).mono ?_
          rintro e w5 ⟨rfl, hb5⟩
          have HB5 := Lib.hid (below_trans HB4.out hb5)
          have HR6 := Lib.hid (HR4.out.ext hb5)
          have HR7 := Lib.hid (HR5.out.ext hb5)
          clear hb5
          go_wp2_with fail
          refine (sameRanges_any A2 A4 c2 c4 (rangesF bs) (rangesF bs') w5 HR7.out HR6.out hl4).mono ?_
          rintro e w6 ⟨rfl, hb6⟩
          have HB6 := Lib.hid (below_trans HB5.out hb6)
          clear hb6
          go_wp2_with fail
          go_ret
          exact ⟨by simp, HB6.out⟩
    · go_enter Try.func3, Try.ntmps3
      go_wp2_with fail
      go_ret
      exact ⟨rfl, Below.refl _ _⟩
  · go_enter Try.func3, Try.ntmps3
    go_wp2_with fail
    go_ret
    exact ⟨rfl, Below.refl _ _⟩
end Go.Proofs.Ytckdcceglmlinaa
