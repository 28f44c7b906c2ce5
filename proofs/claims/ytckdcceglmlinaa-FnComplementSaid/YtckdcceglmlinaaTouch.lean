/- The walk of the reference's touched: how many ranges of a set meet a range. Condition: the bound on the length. -/
import Derived.Test.YtckdcceglmlinaaRef
namespace Go.Proofs.Ytckdcceglmlinaa
open Go.RowKit
set_option linter.unusedSimpArgs false

def tch (a b : Int) (beside : Bool) (r : Rg) : Bool := (decide (r.1 < b) && decide (a < r.2)) || (beside && (r.1 == b || r.2 == a))
def touchedL (a b : Int) (beside : Bool) (L : List Rg) : Nat := L.countP (tch a b beside)
theorem touchedL_succ {L : List Rg} {k : Nat} {r : Rg} (a b : Int) (s : Bool) (hk : L[k]? = some r) : touchedL a b s (L.take (k + 1)) = touchedL a b s (L.take k) + if tch a b s r then 1 else 0 := by
  rw [take_snoc' _ _ _ hk]; unfold touchedL; rw [List.countP_append]; simp [List.countP_cons]
theorem touchedL_le (a b : Int) (s : Bool) (L : List Rg) : touchedL a b s L ≤ L.length := List.countP_le_length

set_option maxHeartbeats 1600000 in
theorem touched_any (A : Option Addr) (c : Nat) (bs : List Bool) (a b : Int) (beside : Bool) (w : World) (h : Reads w w.heap.size 1 A bs.length (bls bs)) (hm : bs.length ≤ 100) :
    Calls Try.prog 45 #[.slice A bs.length c, .int .i64 a, .int .i64 b, .bool beside] w (BelPost (.int .i64 (touchedL a b beside (rangesF bs))) w) := by
  have H2 := Lib.hid h
  have hrl : (rangesF bs).length ≤ 100 := Nat.le_trans (rg_len bs bs.length) hm
  clear h
  go_enter Try.func45, Try.ntmps45
  go_wp2_with fail
  refine (ranges_any A c bs w H2.out hm).mono ?_
  rintro e w1 ⟨A1, c1, rfl, hown, hb1⟩
  have HO := Lib.hid (Reads.of_own hown)
  generalize rangesF bs = L at *
  clear hown
  go_wp2_with fail
  go_loopw [9, 15] (fun s i wr => ∃ k : Nat, k ≤ L.length ∧ i = .int .i64 k ∧ s = .int .i64 (touchedL a b beside (L.take k)) ∧ Below w.heap.size w wr ∧ Below w1.heap.size w1 wr) (fun _ i _ => L.length - (intOf i).toNat)
  case atStart => exact ⟨0, Nat.zero_le _, rfl, rfl, hb1, Below.refl _ _⟩
  case round =>
    obtain ⟨k, hk, rfl, rfl, hb, hbb⟩ := hrel
    by_cases hlt : k < L.length
    · have hkr := List.getElem?_eq_getElem hlt
      generalize L[k] = r at *
      obtain ⟨b1, off, rfl, _, ca, cb⟩ := (HO.out.ext hbb).rg hkr
      have HN := Lib.hid (touchedL_succ a b beside hkr)
      have hbd := touchedL_le a b beside (L.take k)
      rw [List.length_take, Nat.min_eq_left hk] at hbd
      have HB := Lib.hid hb
      have HBB := Lib.hid hbb
      clear hkr hb hbb
      generalize touchedL a b beside (L.take k) = acc at *
      obtain ⟨p, q⟩ := r
      simp only at *
      cases beside
      · go_wp2_with fail
        all_goals
          go_roundw
          case rel => exact ⟨k + 1, by omega, by go_num, by (first | (rw [HN.out, show tch a b false (p, q) = true by ((try simp only [beq_iff_eq, beq_eq_false_iff_ne, ne_eq] at *); simp [tch]; omega)]; simp; done) | (rw [HN.out, show tch a b false (p, q) = false by ((try simp only [beq_iff_eq, beq_eq_false_iff_ne, ne_eq] at *); simp [tch]; omega)]; simp; done)), below_alloc' HB.out _, below_alloc' HBB.out _⟩
          case measure => simp [intOf]; omega
      · go_wp2_with fail
        all_goals
          go_roundw
          case rel => exact ⟨k + 1, by omega, by go_num, by (first | (rw [HN.out, show tch a b true (p, q) = true by ((try simp only [beq_iff_eq, beq_eq_false_iff_ne, ne_eq] at *); simp [tch]; omega)]; simp; done) | (rw [HN.out, show tch a b true (p, q) = false by ((try simp only [beq_iff_eq, beq_eq_false_iff_ne, ne_eq] at *); simp [tch]; omega)]; simp; done)), below_alloc' HB.out _, below_alloc' HBB.out _⟩
          case measure => simp [intOf]; omega
    · have hkn : k = L.length := by omega
      have HT := Lib.hid (show touchedL a b beside L = touchedL a b beside (L.take k) by rw [hkn, List.take_length])
      clear hkn
      go_wp2_with fail
      go_ret
      exact ⟨by rw [HT.out]; rfl, hb⟩
end Go.Proofs.Ytckdcceglmlinaa
