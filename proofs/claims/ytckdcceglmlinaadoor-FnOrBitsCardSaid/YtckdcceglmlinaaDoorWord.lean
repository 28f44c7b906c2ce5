/- The small functions on words: places, masks, the count of ones, trailing zeros. Condition: a word is below 2^64. -/
import Derived.Test.YtckdcceglmlinaaDoorSteps
import Derived.Test.YtckdcceglmlinaaDoorPop
import Derived.Test.YtckdcceglmlinaaDoorDraw
import Derived.Laws.Bits64b
import Derived.Lib.LaidTab
import Derived.Shelf.Spec.TrailingZeros
namespace Go.Proofs.YtckdcceglmlinaaDoor
open Go.RowKit
set_option linter.unusedSimpArgs false

theorem idx_any (v : Nat) (hv : v ≤ 1000) (w : World) : Calls Tryd.prog 32 #[.int .i64 (v : Int)] w (fun e w' => e = .returned (.int .i64 ((v / 64 : Nat) : Int)) ∧ w' = w) := by
  go_enter Tryd.func32, Tryd.ntmps32
  go_wp2_with fail
  go_ret
  exact ⟨rfl, rfl⟩
theorem wrap_pow (v : Nat) : IntKind.u64.wrap ((2 : Int) ^ (v % 64)) = ((2 ^ (v % 64) : Nat) : Int) := by
  have h : (2 : Nat) ^ (v % 64) < 2 ^ 64 := Nat.pow_lt_pow_right (by omega) (by omega)
  have e : ((2 : Int) ^ (v % 64)) = ((2 ^ (v % 64) : Nat) : Int) := by simp
  rw [e, IntKind.wrap_u64]
  generalize 2 ^ (v % 64) = p at *
  omega
theorem mask_any (v : Nat) (hv : v ≤ 1000) (w : World) : Calls Tryd.prog 33 #[.int .i64 (v : Int)] w (fun e w' => e = .returned (.int .u64 ((2 ^ (v % 64) : Nat) : Int)) ∧ w' = w) := by
  rw [← wrap_pow]
  go_enter Tryd.func33, Tryd.ntmps33
  go_wp2_with fail
  go_ret
  exact ⟨rfl, rfl⟩
theorem words_any (v : Nat) (hv : v ≤ 1000) (w : World) : Calls Tryd.prog 41 #[.int .i64 (v : Int)] w (fun e w' => e = .returned (.int .i64 ((v / 64 + 1 : Nat) : Int)) ∧ w' = w) := by
  go_enter Tryd.func41, Tryd.ntmps41
  go_wp2_with fail
  refine (idx_any v hv w).mono ?_
  rintro e w1 ⟨rfl, rfl⟩
  go_wp2_with fail
  go_ret
  exact ⟨rfl, rfl⟩
theorem mk_m0 : mk 0x55 8 = 6148914691236517205 := by decide
theorem mk_m1 : mk 0x33 8 = 3689348814741910323 := by decide
theorem mk_m2 : mk 0x0f 8 = 1085102592571150095 := by decide
theorem and_le (a : Nat) (m : Nat) : a &&& m ≤ m := Nat.and_le_right
theorem ones_any (x : Nat) (hx : x < 18446744073709551616) (w : World) : Calls Tryd.prog 34 #[.int .u64 (x : Int)] w (fun e w' => e = .returned (.int .i64 (Lib.onesCount x : Nat)) ∧ w' = w) := by
  obtain ⟨y, z1, z2, z3, hy, h1, h2, h3, hlt, hpop⟩ := pop_end x
  have E1 : ∃ y1 : Nat, y1 = a1 8 x ∧ y1 < 18446744073709551616 ∧ IntKind.u64.wrap (bits BinOp.and IntKind.u64 ((x : Int) / 2) 6148914691236517205 + bits BinOp.and IntKind.u64 (x : Int) 6148914691236517205) = (y1 : Int) := by
    have q1 := and_le (x / 2) 6148914691236517205
    have q2 := and_le x 6148914691236517205
    refine ⟨_, rfl, ?_, ?_⟩
    · unfold a1; rw [mk_m0]; omega
    · unfold a1
      rw [mk_m0, show (x : Int) / 2 = ((x / 2 : Nat) : Int) by omega, show (6148914691236517205 : Int) = ((6148914691236517205 : Nat) : Int) from rfl, bits_and_u64_nat _ _ (by omega) (by omega), bits_and_u64_nat _ _ hx (by omega), IntKind.wrap_u64]
      omega
  obtain ⟨y1, hy1, l1, e1⟩ := E1
  have E2 : ∃ y2 : Nat, y2 = a2 8 y1 ∧ y2 ≤ 7378697629483820646 ∧ IntKind.u64.wrap (bits BinOp.and IntKind.u64 ((y1 : Int) / 4) 3689348814741910323 + bits BinOp.and IntKind.u64 (y1 : Int) 3689348814741910323) = (y2 : Int) := by
    have q1 := and_le (y1 / 4) 3689348814741910323
    have q2 := and_le y1 3689348814741910323
    refine ⟨_, rfl, ?_, ?_⟩
    · unfold a2; rw [mk_m1]; omega
    · unfold a2
      rw [mk_m1, show (y1 : Int) / 4 = ((y1 / 4 : Nat) : Int) by omega, show (3689348814741910323 : Int) = ((3689348814741910323 : Nat) : Int) from rfl, bits_and_u64_nat _ _ (by omega) (by omega), bits_and_u64_nat _ _ l1 (by omega), IntKind.wrap_u64]
      omega
  obtain ⟨y2, hy2, l2, e2⟩ := E2
  have E3 : bits BinOp.and IntKind.u64 ((y2 : Int) / 16 + (y2 : Int)) 1085102592571150095 = (y : Int) := by
    have q : (y2 : Int) / 16 + (y2 : Int) = ((y2 / 16 + y2 : Nat) : Int) := by omega
    rw [q, show (1085102592571150095 : Int) = ((1085102592571150095 : Nat) : Int) from rfl, bits_and_u64_nat _ _ (by omega) (by omega), ← hy]
    unfold tt a3
    rw [mk_m2, ← hy1, ← hy2]
  have e4 : IntKind.u64.wrap ((y : Int) + (y : Int) / 256) = (z1 : Int) := by rw [IntKind.wrap_u64]; omega
  have e5 : IntKind.u64.wrap ((z1 : Int) + (z1 : Int) / 65536) = (z2 : Int) := by rw [IntKind.wrap_u64]; omega
  have e6 : IntKind.u64.wrap ((z2 : Int) + (z2 : Int) / 4294967296) = (z3 : Int) := by rw [IntKind.wrap_u64]; omega
  have e8 : bits BinOp.and IntKind.i64 (z3 : Int) 127 = (Lib.onesCount x : Int) := by
    rw [show (127 : Int) = ((127 : Nat) : Int) from rfl, (bits_nat .i64 63 (by decide) (fun n h0 h1 => by rw [IntKind.wrap_i64]; omega) z3 127 (by omega) (by omega)).1, ← hpop]
    exact congrArg Int.ofNat (Nat.and_two_pow_sub_one_eq_mod z3 7)
  clear hpop hy h1 h2 h3 hy1 hy2
  go_enter Tryd.func34, Tryd.ntmps34
  go_wp2_with fail
  go_ret
  exact ⟨rfl, rfl⟩

/-! ### trailing zeros -/
theorem gTz : Tryd.prog.globalNamed "math/bits.deBruijn64tab" = some 0 := by kernel_rfl
theorem tz_core (x k idx : Nat) (w : World) (hx0 : ((x : Int) == 0) = false)
    (key : IntKind.u64.wrap (bits BinOp.and IntKind.u64 (x : Int) (IntKind.u64.wrap (-(x : Int))) * 285870213051353865) / 288230376151711744 = (idx : Int))
    (hi : idx < 64) (hk : k < 64) (hcell : w.cell? ⟨0, idx, none⟩ = some (.int .u8 k)) :
    Calls Tryd.prog 25 #[.int .u64 x] w fun e w' => e = .returned (.int .i64 k) ∧ w' = w := by
  go_enter Tryd.func25, Tryd.ntmps25
  go_wp2_with (simp only [key])
  go_ret
  exact ⟨rfl, rfl⟩
/-- bits.TrailingZeros64 at a word that is not 0 -/
theorem tz_any (x : Nat) (h0 : x ≠ 0) (hx : x < 18446744073709551616) (w : World) (hT : TabAt 0 Lib.deBruijn64tab w) :
    Calls Tryd.prog 25 #[.int .u64 x] w fun e w' => e = .returned (.int .i64 (Lib.ctz 64 x : Nat)) ∧ w' = w := by
  obtain ⟨hlow, hk⟩ := Lib.lowest_bit 64 x h0 hx
  obtain ⟨hi, htab⟩ := Lib.deBruijn64_at _ hk
  have hcell := hT _ hi
  rw [htab] at hcell
  exact tz_core x _ _ w (by simp; omega) (tz64_key x _ hx h0 hlow) hi hk hcell
end Go.Proofs.YtckdcceglmlinaaDoor
