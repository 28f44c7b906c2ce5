/- The walk of the reference's equality of ranges. Condition: the bound on the lengths. -/
import Derived.Test.YtckdcceglmlinaaEq
import Derived.Laws.StructEq
namespace Go.Proofs.Ytckdcceglmlinaa
open Go.RowKit
set_option linter.unusedSimpArgs false

theorem eqGuard31 : Try.prog.eqGuardType Try.prog.depth 31 = false := by kernel_rfl
theorem stood31 : Try.prog.stoodInHeld 31 = false := by kernel_rfl
theorem fields31 : Try.prog.underlying 31 = some (.struct (Try.prog.fieldsOf 31)) := by kernel_rfl
def neP (p q p' q' : Int) : Bool := !(p == p' && q == q')
theorem neq31 (w : World) (p q p' q' : Int) : (binOp .neq 31 (.agg #[.int .i64 p, .int .i64 q]) (.agg #[.int .i64 p', .int .i64 q'])).run Try.prog w = .ok (.bool (neP p q p' q')) w := by
  rw [run_neq_struct, run_equalIn_agg w 9999 31 _ _ fields31 stood31]
  simp [Op.eqFields, go_sem, Try.underlying31, Try.underlying3, neP]
  by_cases h1 : p = p' <;> by_cases h2 : q = q' <;> simp [h1, h2]

set_option maxHeartbeats 1000000 in
theorem sameRanges_any (A A' : Option Addr) (c c' : Nat) (L M : List Rg) (w : World) (h : Reads w w.heap.size 2 A L.length (flat L)) (h' : Reads w w.heap.size 2 A' M.length (flat M)) (hl' : M.length ≤ 100) :
    Calls Try.prog 12 #[.slice A L.length c, .slice A' M.length c'] w (BelPost (.bool (eqS L M)) w) := by
  have H2 := Lib.hid h
  have H4 := Lib.hid h'
  clear h h'
  by_cases hll : L.length = M.length
  · have HLL := Lib.hid hll
    rw [hll]
    clear hll
    go_enter Try.func12, Try.ntmps12
    go_wp2_with fail
    go_loopw [13] (fun i wr => ∃ k : Nat, k ≤ M.length ∧ i = .int .i64 k ∧ Below w.heap.size w wr ∧ Hid (L.take k = M.take k)) (fun i _ => M.length - (intOf i).toNat)
    case atStart => exact ⟨0, Nat.zero_le _, rfl, Below.refl _ _, Lib.hid rfl⟩
    case round =>
      obtain ⟨k, hk, rfl, hb, HT⟩ := hrel
      by_cases hlt : k < M.length
      · have hlt' : k < L.length := by rw [HLL.out]; exact hlt
        have hkr := List.getElem?_eq_getElem hlt'
        have hks := List.getElem?_eq_getElem hlt
        generalize L[k] = r at *
        generalize M[k] = s at *
        obtain ⟨b, off, rfl, hbl, ca, cb⟩ := (H2.out.ext hb).rg hkr
        obtain ⟨b', off', rfl, hbl', ca', cb'⟩ := (H4.out.ext hb).rg hks
        have HKR := Lib.hid hkr
        have HKS := Lib.hid hks
        clear hkr hks hlt'
        obtain ⟨p, q⟩ := r
        obtain ⟨p', q'⟩ := s
        have HB := Lib.hid hb
        clear hb
        simp only at ca cb ca' cb'
        have f1 := neq31
        have f2 := fun w x y => run_eqGuard_agg (P := Try.prog) w .neq 31 x y #[.int .i64 p, .int .i64 q] #[.int .i64 p', .int .i64 q'] eqGuard31
        cases hne : neP p q p' q'
        · have hpq : p = p' ∧ q = q' := by simpa [neP] using hne
          have HN := Lib.hid hpq
          clear hpq
          go_wp2_with fail
          go_quiet (fail)
          go_wp2_with fail
          go_roundw
          case rel => exact ⟨k + 1, by omega, by go_num, below_drewN' HB.out _, Lib.hid (by rw [take_snoc' _ _ _ HKR.out, take_snoc' _ _ _ HKS.out, HT.out, HN.out.1, HN.out.2])⟩
          case measure => simp [intOf]; omega
        · have HN := Lib.hid (show eqS L M = false from eqS_false (fun e => by have := HKR.out; rw [e, HKS.out] at this; cases this; simp [neP] at hne))
          go_wp2_with fail
          go_quiet (fail)
          go_wp2_with fail
          go_ret
          exact ⟨by rw [HN.out]; rfl, below_drewN' HB.out _⟩
      · have hkn : k = M.length := by omega
        have HN := Lib.hid (show eqS L M = true from eqS_true (by have := HT.out; rw [hkn, List.take_length, List.take_of_length_le (by rw [HLL.out]; exact Nat.le_refl _)] at this; exact this))
        clear hkn
        go_wp2_with fail
        go_ret
        exact ⟨by rw [HN.out]; rfl, hb⟩
  · have hne : ((L.length : Int) != (M.length : Int)) = true := by rw [bne_iff_ne]; omega
    have HN := Lib.hid (show eqS L M = false from eqS_false (fun e => hll (by rw [e])))
    clear hll
    go_enter Try.func12, Try.ntmps12
    go_wp2_with fail
    go_ret
    exact ⟨by rw [HN.out]; rfl, Below.refl _ _⟩
end Go.Proofs.Ytckdcceglmlinaa
