/- The walk of the law FnContains. No condition but the bound on the length. -/
import Derived.Test.YtckdcceglmlinaaLawS
namespace Go.Proofs.Ytckdcceglmlinaa
open Go.RowKit
set_option linter.unusedSimpArgs false

set_option maxHeartbeats 2000000 in
theorem lawContains_any (A : Option Addr) (c : Nat) (sts : List St) (n : Int) (w : World) (h : Reads w w.heap.size 3 A sts.length (flat3 sts)) (hm : sts.length ≤ 9223372036854775807) :
    Calls Try.prog 4 #[.slice A sts.length c, .int .i64 n] w (Yes w) := by
  have H := Lib.hid h
  clear h
  by_cases h1 : sts.length ≤ 2147483647
  · have HI : Hid (StIn w A sts) := Lib.hid ⟨H.out, h1⟩
    go_enter Try.func4, Try.ntmps4
    go_wp2_with fail
    refine (stepsIn_any A c sts w HI.out).mono ?_
    rintro e w1 ⟨A1, c1, rfl, hi1, hb1⟩
    have HI1 := Lib.hid hi1
    have HB1 := Lib.hid hb1
    clear hi1 hb1
    go_wp2_with fail
    refine (spec_any A1 c1 sts w1 HI1.out).mono ?_
    rintro e w2 ⟨A2, c2, bs, ok, rfl, hsm, hok, hr2, hb2⟩
    have HSM := Lib.hid hsm
    have HOK := Lib.hid hok
    have HR2 := Lib.hid hr2
    have HB2 := Lib.hid (below_trans HB1.out hb2)
    have hl4 := hsm.1
    clear hsm hok hr2 hb2
    cases ok
    · go_wp2_with fail
      go_ret
      exact ⟨rfl, HB2.out⟩
    · have HRB := Lib.hid (HOK.out rfl)
      by_cases h2 : n < -1000
      · go_wp2_with fail
        go_ret
        exact ⟨rfl, HB2.out⟩
      · by_cases h3 : 1000 < n
        · go_wp2_with fail
          go_ret
          exact ⟨rfl, HB2.out⟩
        · generalize hL : rangesF bs = L at *
          have HL := Lib.hid hL
          clear hL
          go_wp2_with fail
          go_loopw [7, 31] (fun t i wr => ∃ k : Nat, k ≤ L.length ∧ i = .int .i64 k ∧ t = .bool (memS (L.take k) n) ∧ Hid (Below w2.heap.size w2 wr)) (fun _ i _ => L.length - (intOf i).toNat)
          case atStart => exact ⟨0, Nat.zero_le _, rfl, rfl, Lib.hid (Below.refl _ _)⟩
          case round =>
            obtain ⟨k, hk, rfl, rfl, HB⟩ := hrel
            by_cases hlt : k < L.length
            · have hkr := List.getElem?_eq_getElem hlt
              generalize L[k] = r at *
              obtain ⟨b, off, rfl, _, ca, cb⟩ := (HR2.out.ext HB.out).rg hkr
              have HT := Lib.hid (memS_take_succ hkr n)
              have HBX := Lib.hid (below_alloc' HB.out (Obj.cells #[.int .i64 r.1, .int .i64 r.2] 31))
              clear hkr
              obtain ⟨p, q⟩ := r
              simp only at ca cb
              cases hms : memS (L.take k) n
              · have HMS := Lib.hid hms
                clear hms
                by_cases h4 : p ≤ n
                · by_cases h5 : n < q
                  · go_wp2_with fail
                    go_roundw
                    case rel => exact ⟨k + 1, by omega, by go_num, by rw [HT.out, HMS.out]; simp [inR, h4, h5], HBX⟩
                    case measure => simp [intOf]; omega
                  · go_wp2_with fail
                    go_roundw
                    case rel => exact ⟨k + 1, by omega, by go_num, by rw [HT.out, HMS.out]; simp [inR, h4, h5], HBX⟩
                    case measure => simp [intOf]; omega
                · go_wp2_with fail
                  go_roundw
                  case rel => exact ⟨k + 1, by omega, by go_num, by rw [HT.out, HMS.out]; simp [inR, h4], HBX⟩
                  case measure => simp [intOf]; omega
              · have HMS := Lib.hid hms
                clear hms
                go_wp2_with fail
                go_roundw
                case rel => exact ⟨k + 1, by omega, by go_num, by rw [HT.out, HMS.out]; rfl, HBX⟩
                case measure => simp [intOf]; omega
            · have hkn : k = L.length := by omega
              have HM := Lib.hid (show memS (L.take k) n = memS L n by rw [hkn, List.take_length])
              have HBZ := Lib.hid (below_trans HB2.out HB.out)
              clear hkn
              rw [HM.out]
              go_wp2_with fail
              refine (implContains_any A c sts bs n wr (HI.out.ext HBZ.out) HRB.out).mono ?_
              rintro e w5 ⟨rfl, hb5⟩
              have HB5 := Lib.hid (below_trans HBZ.out hb5)
              clear hb5
              rw [HL.out]
              go_wp2_with fail
              go_ret
              exact ⟨by simp, HB5.out⟩
  · go_enter Try.func4, Try.ntmps4
    go_wp2_with fail
    go_ret
    exact ⟨rfl, Below.refl _ _⟩
end Go.Proofs.Ytckdcceglmlinaa
