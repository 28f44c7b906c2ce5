/- The arithmetic of math/bits.OnesCount64: the sums of bits side by side, byte for byte. No program in sight. -/
import Derived.Lib.BitFns
namespace Go.Proofs.YtckdcceglmlinaaDoor
open Go

/-- n bytes c -/
def mk (c : Nat) : Nat → Nat
  | 0 => 0
  | n + 1 => c + 256 * mk c n
theorem and_byte (b y c m : Nat) (hb : b < 256) (hc : c < 256) : (b + 256 * y) &&& (c + 256 * m) = (b &&& c) + 256 * (y &&& m) := by
  have hbc : b &&& c < 256 := Nat.lt_of_le_of_lt Nat.and_le_left hb
  apply Nat.eq_of_testBit_eq
  intro i
  rw [show b + 256 * y = 2 ^ 8 * y + b by omega, show c + 256 * m = 2 ^ 8 * m + c by omega, show (b &&& c) + 256 * (y &&& m) = 2 ^ 8 * (y &&& m) + (b &&& c) by omega]
  rw [Nat.testBit_and, Nat.testBit_two_pow_mul_add _ hb, Nat.testBit_two_pow_mul_add _ hc, Nat.testBit_two_pow_mul_add _ hbc]
  split
  · rw [Nat.testBit_and]
  · rw [Nat.testBit_and]

def a1 (n x : Nat) : Nat := (x / 2 &&& mk 0x55 n) + (x &&& mk 0x55 n)
def a2 (n x : Nat) : Nat := (x / 4 &&& mk 0x33 n) + (x &&& mk 0x33 n)
def a3 (n x : Nat) : Nat := (x / 16 + x) &&& mk 0x0f n
def b1 (x : Nat) : Nat := (x / 2 &&& 0x55) + (x &&& 0x55)
def b2 (x : Nat) : Nat := (x / 4 &&& 0x33) + (x &&& 0x33)
def b3 (x : Nat) : Nat := (x / 16 + x) % 16
theorem b1_lt : ∀ x : Fin 256, b1 x.val < 256 := by decide +kernel
theorem b2_nib : ∀ x : Fin 256, b2 (b1 x.val) ≤ 0x44 ∧ b2 (b1 x.val) % 16 ≤ 4 := by decide +kernel
theorem b3_pop : ∀ x : Fin 256, b3 (b2 (b1 x.val)) = Lib.popAux 8 x.val := by decide +kernel
theorem shr1_byte : ∀ (x : Fin 256) (c : Fin 2), ((x.val / 2 + 128 * c.val) &&& 0x55) = (x.val / 2 &&& 0x55) := by decide +kernel
theorem shr2_byte : ∀ (x : Fin 256) (c : Fin 4), ((x.val / 4 + 64 * c.val) &&& 0x33) = (x.val / 4 &&& 0x33) := by decide +kernel
theorem and15 (x : Nat) : x &&& 15 = x % 16 := Nat.and_two_pow_sub_one_eq_mod x 4
theorem pop8_le : ∀ x : Fin 256, Lib.popAux 8 x.val ≤ 8 := by decide +kernel

theorem a1_step (n b y : Nat) (hb : b < 256) : a1 (n + 1) (b + 256 * y) = b1 b + 256 * a1 n y := by
  unfold a1 b1
  have e : (b + 256 * y) / 2 = (b / 2 + 128 * (y % 2)) + 256 * (y / 2) := by omega
  have hs : ((b / 2 + 128 * (y % 2)) &&& 0x55) = (b / 2 &&& 0x55) := shr1_byte ⟨b, hb⟩ ⟨y % 2, by omega⟩
  rw [e, mk, and_byte _ _ _ _ (by omega) (by omega), and_byte _ _ _ _ hb (by omega), hs]
  omega
theorem a2_step (n b y : Nat) (hb : b < 256) : a2 (n + 1) (b + 256 * y) = b2 b + 256 * a2 n y := by
  unfold a2 b2
  have e : (b + 256 * y) / 4 = (b / 4 + 64 * (y % 4)) + 256 * (y / 4) := by omega
  have hs : ((b / 4 + 64 * (y % 4)) &&& 0x33) = (b / 4 &&& 0x33) := shr2_byte ⟨b, hb⟩ ⟨y % 4, by omega⟩
  rw [e, mk, and_byte _ _ _ _ (by omega) (by omega), and_byte _ _ _ _ hb (by omega), hs]
  omega
theorem a3_step (n b y : Nat) (hb : b ≤ 0x44) (hy : y % 16 ≤ 4) : a3 (n + 1) (b + 256 * y) = b3 b + 256 * a3 n y := by
  unfold a3 b3
  have e : (b + 256 * y) / 16 + (b + 256 * y) = (b / 16 + b + 16 * (y % 16)) + 256 * (y / 16 + y) := by omega
  rw [e, mk, and_byte _ _ _ _ (by omega) (by omega), show (0x0f : Nat) = 15 from rfl, and15]
  omega
/-- all three -/
def tt (n x : Nat) : Nat := a3 n (a2 n (a1 n x))
theorem low_byte (n x : Nat) : a2 n (a1 n x) % 16 ≤ 4 := by
  cases n with
  | zero => simp [a2, a1, mk]
  | succ n =>
    have hx : x = x % 256 + 256 * (x / 256) := by omega
    have h1 := b1_lt ⟨x % 256, by omega⟩
    have h2 := b2_nib ⟨x % 256, by omega⟩
    rw [hx, a1_step _ _ _ (by omega), a2_step _ _ _ h1]
    have := h2.2
    simp only at this
    omega
theorem tt_step (n x : Nat) : tt (n + 1) x = Lib.popAux 8 (x % 256) + 256 * tt n (x / 256) := by
  unfold tt
  have hx : x = x % 256 + 256 * (x / 256) := by omega
  have h1 := b1_lt ⟨x % 256, by omega⟩
  have h2 := b2_nib ⟨x % 256, by omega⟩
  have h3 := b3_pop ⟨x % 256, by omega⟩
  have e : a1 (n + 1) x = b1 (x % 256) + 256 * a1 n (x / 256) := by
    have := a1_step n (x % 256) (x / 256) (by omega)
    rw [← hx] at this; exact this
  rw [e, a2_step _ _ _ h1, a3_step _ _ _ h2.1 (low_byte n _), h3]
theorem popAux_8 (f x : Nat) : Lib.popAux (8 + f) x = Lib.popAux 8 x + Lib.popAux f (x / 256) := by
  have h : ∀ (k f x : Nat), Lib.popAux (k + f) x = Lib.popAux k x + Lib.popAux f (x / 2 ^ k) := by
    intro k
    induction k with
    | zero => intro f x; simp [Lib.popAux]
    | succ k ih =>
      intro f x
      rw [show k + 1 + f = (k + f) + 1 by omega, Lib.popAux, Lib.popAux, ih, Nat.div_div_eq_div_mul, Nat.pow_succ, Nat.mul_comm 2]
      omega
  exact h 8 f x
theorem popAux_low : ∀ x : Nat, Lib.popAux 8 (x % 256) = Lib.popAux 8 x := by
  have h : ∀ (k x : Nat), Lib.popAux k (x % 2 ^ k) = Lib.popAux k x := by
    intro k
    induction k with
    | zero => intro x; rfl
    | succ k ih =>
      intro x
      rw [Lib.popAux, Lib.popAux]
      have e1 : x % 2 ^ (k + 1) % 2 = x % 2 := Nat.mod_mod_of_dvd _ ⟨2 ^ k, by rw [Nat.pow_succ, Nat.mul_comm]⟩
      have e2 : x % 2 ^ (k + 1) / 2 = x / 2 % 2 ^ k := by
        rw [Nat.pow_succ, Nat.mul_comm, Nat.mod_mul_right_div_self]
      rw [e1, e2, ih]
  exact h 8
/-- the eight counts -/
theorem tt8 (x : Nat) : ∃ p0 p1 p2 p3 p4 p5 p6 p7 : Nat, p0 ≤ 8 ∧ p1 ≤ 8 ∧ p2 ≤ 8 ∧ p3 ≤ 8 ∧ p4 ≤ 8 ∧ p5 ≤ 8 ∧ p6 ≤ 8 ∧ p7 ≤ 8 ∧
    tt 8 x = p0 + 256 * p1 + 65536 * p2 + 16777216 * p3 + 4294967296 * p4 + 1099511627776 * p5 + 281474976710656 * p6 + 72057594037927936 * p7 ∧
    Lib.onesCount x = p0 + p1 + p2 + p3 + p4 + p5 + p6 + p7 := by
  have hp : ∀ y : Nat, Lib.popAux 8 (y % 256) ≤ 8 := fun y => pop8_le ⟨y % 256, by omega⟩
  refine ⟨_, _, _, _, _, _, _, _, hp x, hp (x / 256), hp (x / 256 / 256), hp (x / 256 / 256 / 256), hp (x / 256 / 256 / 256 / 256), hp (x / 256 / 256 / 256 / 256 / 256), hp (x / 256 / 256 / 256 / 256 / 256 / 256), hp (x / 256 / 256 / 256 / 256 / 256 / 256 / 256), ?_, ?_⟩
  · rw [tt_step, tt_step, tt_step, tt_step, tt_step, tt_step, tt_step, tt_step]
    have : ∀ y, tt 0 y = 0 := by intro y; simp [tt, a3, mk]
    rw [this]
    omega
  · unfold Lib.onesCount
    simp only [popAux_low]
    rw [show (64 : Nat) = 8 + 56 from rfl, popAux_8, show (56 : Nat) = 8 + 48 from rfl, popAux_8, show (48 : Nat) = 8 + 40 from rfl, popAux_8, show (40 : Nat) = 8 + 32 from rfl, popAux_8, show (32 : Nat) = 8 + 24 from rfl, popAux_8, show (24 : Nat) = 8 + 16 from rfl, popAux_8, show (16 : Nat) = 8 + 8 from rfl, popAux_8]
    omega
/-- what OnesCount64 reckons -/
theorem div_part (a b c : Nat) (hb : 0 < b) (h : a < b) : (a + b * c) / b = c := by
  rw [Nat.add_mul_div_left _ _ hb, Nat.div_eq_of_lt h, Nat.zero_add]
theorem pop_sum (p0 p1 p2 p3 p4 p5 p6 p7 : Nat) :
    p0 + 256 * p1 + 65536 * p2 + 16777216 * p3 + 4294967296 * p4 + 1099511627776 * p5 + 281474976710656 * p6 + 72057594037927936 * p7 + (p1 + 256 * p2 + 65536 * p3 + 16777216 * p4 + 4294967296 * p5 + 1099511627776 * p6 + 281474976710656 * p7) +
    ((p2 + p3) + 256 * (p3 + p4) + 65536 * (p4 + p5) + 16777216 * (p5 + p6) + 4294967296 * (p6 + p7) + 1099511627776 * p7) + ((p4 + p5 + p6 + p7) + 256 * (p5 + p6 + p7) + 65536 * (p6 + p7) + 16777216 * p7) =
    (p0 + p1 + p2 + p3 + p4 + p5 + p6 + p7) + 128 * (2 * (p1 + p2 + p3 + p4 + p5 + p6 + p7) + 512 * (p2 + p3 + p4 + p5 + p6 + p7) + 131072 * (p3 + p4 + p5 + p6 + p7) + 33554432 * (p4 + p5 + p6 + p7) + 8589934592 * (p5 + p6 + p7) + 2199023255552 * (p6 + p7) + 562949953421312 * p7) := by omega
theorem pop_end (x : Nat) : ∃ y y1 y2 y3 : Nat, tt 8 x = y ∧ y1 = y + y / 256 ∧ y2 = y1 + y1 / 65536 ∧ y3 = y2 + y2 / 4294967296 ∧ y3 < 9223372036854775808 ∧ y3 % 128 = Lib.onesCount x := by
  obtain ⟨p0, p1, p2, p3, p4, p5, p6, p7, h0, h1, h2, h3, h4, h5, h6, h7, ht, hc⟩ := tt8 x
  rw [hc, ht]
  clear hc ht
  have e1 : (p0 + 256 * p1 + 65536 * p2 + 16777216 * p3 + 4294967296 * p4 + 1099511627776 * p5 + 281474976710656 * p6 + 72057594037927936 * p7) / 256 = p1 + 256 * p2 + 65536 * p3 + 16777216 * p4 + 4294967296 * p5 + 1099511627776 * p6 + 281474976710656 * p7 := by
    rw [← div_part p0 256 (p1 + 256 * p2 + 65536 * p3 + 16777216 * p4 + 4294967296 * p5 + 1099511627776 * p6 + 281474976710656 * p7) (by decide) (by omega)]
    congr 1; omega
  have e2 : (p0 + 256 * p1 + 65536 * p2 + 16777216 * p3 + 4294967296 * p4 + 1099511627776 * p5 + 281474976710656 * p6 + 72057594037927936 * p7 + (p1 + 256 * p2 + 65536 * p3 + 16777216 * p4 + 4294967296 * p5 + 1099511627776 * p6 + 281474976710656 * p7)) / 65536 =
    (p2 + p3) + 256 * (p3 + p4) + 65536 * (p4 + p5) + 16777216 * (p5 + p6) + 4294967296 * (p6 + p7) + 1099511627776 * p7 := by
    rw [← div_part (p0 + p1 + 256 * (p1 + p2)) 65536 ((p2 + p3) + 256 * (p3 + p4) + 65536 * (p4 + p5) + 16777216 * (p5 + p6) + 4294967296 * (p6 + p7) + 1099511627776 * p7) (by decide) (by omega)]
    congr 1; omega
  have e3 : (p0 + 256 * p1 + 65536 * p2 + 16777216 * p3 + 4294967296 * p4 + 1099511627776 * p5 + 281474976710656 * p6 + 72057594037927936 * p7 + (p1 + 256 * p2 + 65536 * p3 + 16777216 * p4 + 4294967296 * p5 + 1099511627776 * p6 + 281474976710656 * p7) +
    ((p2 + p3) + 256 * (p3 + p4) + 65536 * (p4 + p5) + 16777216 * (p5 + p6) + 4294967296 * (p6 + p7) + 1099511627776 * p7)) / 4294967296 =
    (p4 + p5 + p6 + p7) + 256 * (p5 + p6 + p7) + 65536 * (p6 + p7) + 16777216 * p7 := by
    rw [← div_part (p0 + p1 + p2 + p3 + 256 * (p1 + p2 + p3 + p4) + 65536 * (p2 + p3 + p4 + p5) + 16777216 * (p3 + p4 + p5 + p6)) 4294967296 ((p4 + p5 + p6 + p7) + 256 * (p5 + p6 + p7) + 65536 * (p6 + p7) + 16777216 * p7) (by decide) (by omega)]
    congr 1; omega
  refine ⟨_, _, _, _, rfl, rfl, rfl, rfl, ?_⟩
  rw [e1, e2, e3]
  clear e1 e2 e3
  have e4 := pop_sum p0 p1 p2 p3 p4 p5 p6 p7
  rw [e4]
  refine ⟨by omega, ?_⟩
  rw [Nat.add_mul_mod_self_left, Nat.mod_eq_of_lt (by omega)]
end Go.Proofs.YtckdcceglmlinaaDoor
