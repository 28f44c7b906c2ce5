/- The walk of the reference's take. Condition: the set has 62 truth values. -/
import Derived.Test.YtckdcceglmlinaaAdd
namespace Go.Proofs.Ytckdcceglmlinaa
open Go.RowKit
set_option linter.unusedSimpArgs false

/-- May these numbers of a range not be taken? -/
def bad (a b : Int) (one : Bool) (r : Rg) : Bool := !(decide (b ≤ r.1) || decide (r.2 ≤ a)) && decide (b < r.2) && (decide (r.1 < a) || !one)
def badL (a b : Int) (one : Bool) (L : List Rg) : Bool := L.any (bad a b one)
theorem badL_succ {L : List Rg} {k : Nat} {r : Rg} (a b : Int) (s : Bool) (hk : L[k]? = some r) : badL a b s (L.take (k + 1)) = (badL a b s (L.take k) || bad a b s r) := by
  rw [take_snoc' _ _ _ hk]; simp [badL]
theorem badL_of {L : List Rg} {k : Nat} {r : Rg} (a b : Int) (s : Bool) (hk : L[k]? = some r) (h : bad a b s r = true) : badL a b s L = true := List.any_eq_true.2 ⟨r, List.mem_of_getElem? hk, h⟩
def takeOk (bs : List Bool) (a b : Int) (one : Bool) : Bool := decide (0 ≤ a) && decide (b ≤ 61) && decide (a < b) && decide (touchedL a b false (rangesF bs) ≤ 1) && !badL a b one (rangesF bs)
def takeF (bs : List Bool) (a b : Int) (one : Bool) : List Bool := if takeOk bs a b one then fillN bs a.toNat (b - a).toNat false else bs

set_option maxHeartbeats 1600000 in
theorem take_any (base g cap : Nat) (bs : List Bool) (hl : bs.length = 62) (a b : Int) (one : Bool) (w : World) (hown : w.ownsRow base 4 1 (.slice (some ⟨g, 0, none⟩) 62 cap) 62 (bls bs)) :
    Calls Try.prog 32 #[.slice (some ⟨g, 0, none⟩) 62 cap, .int .i64 a, .int .i64 b, .bool one] w (RefPost base g cap (takeOk bs a b one) (takeF bs a b one) w) := by
  have HO := Lib.hid hown
  clear hown
  have no : takeOk bs a b one = false → takeF bs a b one = bs := fun h => by simp [takeF, h]
  by_cases h1 : 0 ≤ a
  · by_cases h2 : b ≤ 61
    · by_cases h3 : a < b
      · have HR := Lib.hid (Reads.of_own HO.out)
        rw [← hl] at HR
        obtain ⟨na, rfl⟩ := Int.eq_ofNat_of_zero_le h1
        obtain ⟨m, hm⟩ := Int.eq_ofNat_of_zero_le (show 0 ≤ b - (na : Int) by omega)
        obtain rfl : b = (na : Int) + m := by omega
        have hmm : 0 < m := by omega
        have hle : touchedL na ((na : Int) + m) false (rangesF bs) ≤ 100 := Nat.le_trans (touchedL_le _ _ _ _) (Nat.le_trans (rg_len bs bs.length) (by omega))
        by_cases h4 : touchedL na ((na : Int) + m) false (rangesF bs) ≤ 1
        · have hrl : (rangesF bs).length ≤ 100 := Nat.le_trans (rg_len bs bs.length) (by omega)
          have HNO := Lib.hid no
          have HOK := Lib.hid (show takeOk bs na ((na : Int) + m) one = !badL na ((na : Int) + m) one (rangesF bs) by simp [takeOk, h1, h2, h3, h4])
          have HF := Lib.hid (show takeOk bs na ((na : Int) + m) one = true → takeF bs na ((na : Int) + m) one = fillN bs na m false from fun hok => by unfold takeF; rw [if_pos hok, Int.toNat_natCast, show ((na : Int) + m - na).toNat = m by omega])
          clear no hm
          have h4' : decide ((1 : Int) < (touchedL na ((na : Int) + m) false (rangesF bs) : Int)) = false := by rw [decide_eq_false_iff_not]; omega
          have HT := Lib.hid (touched_any (some ⟨g, 0, none⟩) cap bs na ((na : Int) + m) false w (by rw [hl]; rw [hl] at HR; exact HR.out) (by omega))
          have HRA := Lib.hid (fun w1 => ranges_any (some ⟨g, 0, none⟩) cap bs w1)
          rw [hl] at HT HRA
          clear HR h4
          generalize touchedL na ((na : Int) + m) false (rangesF bs) = t at *
          generalize hL : rangesF bs = L at *
          clear hL
          generalize takeOk bs na ((na : Int) + m) one = ok at *
          generalize takeF bs na ((na : Int) + m) one = res at *
          go_enter Try.func32, Try.ntmps32
          go_wp2_with fail
          refine HT.out.mono ?_
          rintro e w1 ⟨rfl, hb⟩
          have HB := Lib.hid hb
          clear hb
          go_wp2_with fail
          refine (HRA.out w1 (Reads.of_own (ownsRow_ext HO.out HB.out)) (by omega)).mono ?_
          rintro e w2 ⟨A2, c2, rfl, hown2, hb2⟩
          have HB2 := Lib.hid (below_trans HB.out hb2)
          have HL2 := Lib.hid (Reads.of_own hown2)
          clear hown2 hb2
          go_wp2_with fail
          go_loopw [33] (fun i wr => ∃ k : Nat, k ≤ L.length ∧ i = .int .i64 k ∧ Hid (badL na ((na : Int) + m) one (L.take k) = false) ∧ Below w2.heap.size w2 wr) (fun i _ => L.length - (intOf i).toNat)
          case atStart => exact ⟨0, Nat.zero_le _, rfl, Lib.hid rfl, Below.refl _ _⟩
          case round =>
            obtain ⟨k, hk, rfl, HBD, hb⟩ := hrel
            by_cases hlt : k < L.length
            · have hkr := List.getElem?_eq_getElem hlt
              generalize L[k] = r at *
              obtain ⟨b1, off, rfl, _, ca, cb⟩ := (HL2.out.ext hb).rg hkr
              have HK := Lib.hid hkr
              have HBW := Lib.hid hb
              clear hkr hb
              obtain ⟨p, q⟩ := r
              simp only at ca cb
              cases hbad : bad na ((na : Int) + m) one (p, q)
              · have HX := Lib.hid hbad
                clear hbad
                cases one
                all_goals go_wp2_with fail
                all_goals first
                  | (exfalso; have := HX.out; simp [bad] at this; omega)
                  | (go_roundw
                     case rel => exact ⟨k + 1, by omega, by go_num, Lib.hid (by rw [badL_succ _ _ _ HK.out, HBD.out, HX.out]; rfl), below_alloc' HBW.out _⟩
                     case measure => simp [intOf]; omega)
              · have HN := Lib.hid (show ok = false by rw [HOK.out, badL_of _ _ _ HK.out hbad]; rfl)
                have HX := Lib.hid hbad
                clear hbad
                cases one
                all_goals go_wp2_with fail
                all_goals first
                  | (exfalso; have := HX.out; simp [bad] at this; omega)
                  | (go_ret; exact ⟨by rw [HN.out]; rfl, by rw [HNO.out HN.out]; exact ownsRow_ext HO.out (below_trans HB2.out (below_alloc' HBW.out _)), grown_of_bel (below_trans HB2.out (below_alloc' HBW.out _))⟩)
            · have hkn : k = L.length := by omega
              have hok : ok = true := by have h5 := HBD.out; rw [hkn, List.take_length] at h5; rw [HOK.out, h5]; rfl
              replace HF := Lib.hid (HF.out hok)
              have HOK' := Lib.hid hok
              have HBW := Lib.hid (below_trans HB2.out hb)
              clear hkn hb hok
              go_wp2_with fail
              go_loopw [11] (fun i wr => ∃ k : Nat, k ≤ m ∧ i = .int .i64 ((na + k : Nat) : Int) ∧ wr.ownsRow base 4 1 (.slice (some ⟨g, 0, none⟩) 62 cap) 62 (bls (fillN bs na k false)) ∧ w.grownBy wr (some g)) (fun i _ => na + m - (intOf i).toNat)
              case atStart => exact ⟨0, Nat.zero_le _, by simp, ownsRow_ext HO.out HBW.out, grown_of_bel HBW.out⟩
              case round =>
                obtain ⟨k, hk, rfl, how, hgr⟩ := hrel
                by_cases hlt : k < m
                · have hb1 : (bls (fillN bs na k false)).length = 62 := by rw [bls_length, fillN_length, hl]
                  have hc := how.cellAt (na + k) (by omega)
                  rw [List.getElem?_eq_getElem (by omega)] at hc
                  generalize (bls (fillN bs na k false))[na + k] = old at *
                  have fr := how.frozenAt (na + k)
                  have hst := (how.stored (na + k) (.bool false)).1
                  rw [bls_set] at hst
                  have HS := Lib.hid hst
                  have HG := Lib.hid (grown_set hgr (na + k) (.bool false))
                  clear hst how hgr hb1
                  go_wp2_with fail
                  go_roundw
                  case rel => exact ⟨k + 1, by omega, by go_num, HS.out, HG.out⟩
                  case measure => simp [intOf]; omega
                · obtain rfl : k = m := by omega
                  go_wp2_with fail
                  go_ret
                  exact ⟨by rw [HOK'.out]; rfl, by rw [HF.out]; exact how, hgr⟩
        · have hok : takeOk bs na ((na : Int) + m) one = false := by simp [takeOk]; omega
          rw [hok, no hok]
          clear hok no hm
          have HT := Lib.hid (touched_any (some ⟨g, 0, none⟩) cap bs na ((na : Int) + m) false w (by rw [hl]; rw [hl] at HR; exact HR.out) (by omega))
          rw [hl] at HT
          clear HR
          generalize touchedL na ((na : Int) + m) false (rangesF bs) = t at *
          go_enter Try.func32, Try.ntmps32
          go_wp2_with fail
          refine HT.out.mono ?_
          rintro e w1 ⟨rfl, hb⟩
          have HB := Lib.hid hb
          clear hb
          go_wp2_with fail
          go_ret
          exact ⟨rfl, ownsRow_ext HO.out HB.out, grown_of_bel HB.out⟩
      · have hok : takeOk bs a b one = false := by simp [takeOk]; omega
        rw [hok, no hok]
        clear hok no
        go_enter Try.func32, Try.ntmps32
        go_wp2_with fail
        go_ret
        exact ⟨rfl, HO.out, grown_of_bel (Below.refl _ _)⟩
    · have hok : takeOk bs a b one = false := by simp [takeOk]; omega
      rw [hok, no hok]
      clear hok no
      go_enter Try.func32, Try.ntmps32
      go_wp2_with fail
      go_ret
      exact ⟨rfl, HO.out, grown_of_bel (Below.refl _ _)⟩
  · have hok : takeOk bs a b one = false := by simp [takeOk]; omega
    rw [hok, no hok]
    clear hok no
    go_enter Try.func32, Try.ntmps32
    go_wp2_with fail
    go_ret
    exact ⟨rfl, HO.out, grown_of_bel (Below.refl _ _)⟩
end Go.Proofs.Ytckdcceglmlinaa
