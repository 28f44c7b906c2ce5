/- The walks of the reference's add and take. Condition: the set has 62 truth values. -/
import Derived.Test.YtckdcceglmlinaaTouch
namespace Go.Proofs.Ytckdcceglmlinaa
open Go.RowKit
set_option linter.unusedSimpArgs false

def fillN (bs : List Bool) (a : Nat) : Nat → Bool → List Bool
  | 0, _ => bs
  | n + 1, v => (fillN bs a n v).set (a + n) v
theorem fillN_length (bs : List Bool) (a n : Nat) (v : Bool) : (fillN bs a n v).length = bs.length := by
  induction n with
  | zero => rfl
  | succ n ih => simp [fillN, ih]
def addOk (bs : List Bool) (a b : Int) : Bool := decide (0 ≤ a) && decide (b ≤ 61) && decide (a < b) && decide (touchedL a b true (rangesF bs) ≤ 2)
def addF (bs : List Bool) (a b : Int) : List Bool := if addOk bs a b then fillN bs a.toNat (b - a).toNat true else bs
theorem bls_set (bs : List Bool) (k : Nat) (v : Bool) : (bls bs).set k (.bool v) = bls (bs.set k v) := by simp [bls, List.map_set]

/-- What a step on the reference's set leaves. -/
def RefPost (base g cap : Nat) (ok : Bool) (bs : List Bool) (w : World) (e : Ending) (w' : World) : Prop :=
  e = .returned (.bool ok) ∧ w'.ownsRow base 4 1 (.slice (some ⟨g, 0, none⟩) 62 cap) 62 (bls bs) ∧ w.grownBy w' (some g)

theorem grown_set {a b : World} {g : Nat} (h : a.grownBy b (some g)) (j : Nat) (u : Value) : a.grownBy (b.setCell ⟨g, j, none⟩ u) (some g) :=
  grown_grown h ⟨rfl, rfl, rfl, by simp [World.setCell], fun k _ hk => Below.heap_setCell _ _ _ _ (fun e => hk (by rw [e]))⟩

set_option maxHeartbeats 1600000 in
theorem add_any (base g cap : Nat) (bs : List Bool) (hl : bs.length = 62) (a b : Int) (w : World) (hown : w.ownsRow base 4 1 (.slice (some ⟨g, 0, none⟩) 62 cap) 62 (bls bs)) :
    Calls Try.prog 31 #[.slice (some ⟨g, 0, none⟩) 62 cap, .int .i64 a, .int .i64 b] w (RefPost base g cap (addOk bs a b) (addF bs a b) w) := by
  have HO := Lib.hid hown
  clear hown
  have no : addOk bs a b = false → addF bs a b = bs := fun h => by simp [addF, h]
  by_cases h1 : 0 ≤ a
  · by_cases h2 : b ≤ 61
    · by_cases h3 : a < b
      · have HR := Lib.hid (Reads.of_own HO.out)
        rw [← hl] at HR
        obtain ⟨na, rfl⟩ := Int.eq_ofNat_of_zero_le h1
        obtain ⟨m, hm⟩ := Int.eq_ofNat_of_zero_le (show 0 ≤ b - (na : Int) by omega)
        obtain rfl : b = (na : Int) + m := by omega
        have hmm : 0 < m := by omega
        have hle : touchedL na ((na : Int) + m) true (rangesF bs) ≤ 100 := Nat.le_trans (touchedL_le _ _ _ _) (Nat.le_trans (rg_len bs bs.length) (by omega))
        by_cases h4 : touchedL na ((na : Int) + m) true (rangesF bs) ≤ 2
        · have hok : addOk bs na ((na : Int) + m) = true := by simp [addOk, h1, h2, h3, h4]
          have HF := Lib.hid (show addF bs na ((na : Int) + m) = fillN bs na m true by unfold addF; rw [if_pos hok, Int.toNat_natCast, show ((na : Int) + m - na).toNat = m by omega])
          rw [hok]
          clear hok no hm
          have HNN := Lib.hid h4
          have h4' : decide ((2 : Int) < (touchedL na ((na : Int) + m) true (rangesF bs) : Int)) = false := by rw [decide_eq_false_iff_not]; omega
          have HT := Lib.hid (touched_any (some ⟨g, 0, none⟩) cap bs na ((na : Int) + m) true w (by rw [hl]; rw [hl] at HR; exact HR.out) (by omega))
          rw [hl] at HT
          clear HR h4
          generalize touchedL na ((na : Int) + m) true (rangesF bs) = t at *
          go_enter Try.func31, Try.ntmps31
          go_wp2_with fail
          refine HT.out.mono ?_
          rintro e w1 ⟨rfl, hb⟩
          have HB := Lib.hid hb
          clear hb
          go_wp2_with fail
          go_loopw [7] (fun i wr => ∃ k : Nat, k ≤ m ∧ i = .int .i64 ((na + k : Nat) : Int) ∧ wr.ownsRow base 4 1 (.slice (some ⟨g, 0, none⟩) 62 cap) 62 (bls (fillN bs na k true)) ∧ w.grownBy wr (some g)) (fun i _ => na + m - (intOf i).toNat)
          case atStart => exact ⟨0, Nat.zero_le _, by simp, ownsRow_ext HO.out HB.out, grown_of_bel HB.out⟩
          case round =>
            obtain ⟨k, hk, rfl, how, hgr⟩ := hrel
            by_cases hlt : k < m
            · have hb1 : (bls (fillN bs na k true)).length = 62 := by rw [bls_length, fillN_length, hl]
              have hc := how.cellAt (na + k) (by omega)
              rw [List.getElem?_eq_getElem (by omega)] at hc
              generalize (bls (fillN bs na k true))[na + k] = old at *
              have fr := how.frozenAt (na + k)
              have hst := (how.stored (na + k) (.bool true)).1
              rw [bls_set] at hst
              have HS := Lib.hid hst
              have HG := Lib.hid (grown_set hgr (na + k) (.bool true))
              clear hst how hgr hb1
              go_wp2_with fail
              go_roundw
              case rel => exact ⟨k + 1, by omega, by go_num, HS.out, HG.out⟩
              case measure => simp [intOf]; omega
            · obtain rfl : k = m := by omega
              go_wp2_with fail
              go_ret
              exact ⟨rfl, by rw [HF.out]; exact how, hgr⟩
        · have hok : addOk bs na ((na : Int) + m) = false := by simp [addOk]; omega
          rw [hok, no hok]
          clear hok no hm
          have HT := Lib.hid (touched_any (some ⟨g, 0, none⟩) cap bs na ((na : Int) + m) true w (by rw [hl]; rw [hl] at HR; exact HR.out) (by omega))
          rw [hl] at HT
          clear HR
          generalize touchedL na ((na : Int) + m) true (rangesF bs) = t at *
          go_enter Try.func31, Try.ntmps31
          go_wp2_with fail
          refine HT.out.mono ?_
          rintro e w1 ⟨rfl, hb⟩
          have HB := Lib.hid hb
          clear hb
          go_wp2_with fail
          go_ret
          exact ⟨rfl, ownsRow_ext HO.out HB.out, grown_of_bel HB.out⟩
      · have hok : addOk bs a b = false := by simp [addOk]; omega
        rw [hok, no hok]
        clear hok no
        go_enter Try.func31, Try.ntmps31
        go_wp2_with fail
        go_ret
        exact ⟨rfl, HO.out, grown_of_bel (Below.refl _ _)⟩
    · have hok : addOk bs a b = false := by simp [addOk]; omega
      rw [hok, no hok]
      clear hok no
      go_enter Try.func31, Try.ntmps31
      go_wp2_with fail
      go_ret
      exact ⟨rfl, HO.out, grown_of_bel (Below.refl _ _)⟩
  · have hok : addOk bs a b = false := by simp [addOk]; omega
    rw [hok, no hok]
    clear hok no
    go_enter Try.func31, Try.ntmps31
    go_wp2_with fail
    go_ret
    exact ⟨rfl, HO.out, grown_of_bel (Below.refl _ _)⟩
end Go.Proofs.Ytckdcceglmlinaa
