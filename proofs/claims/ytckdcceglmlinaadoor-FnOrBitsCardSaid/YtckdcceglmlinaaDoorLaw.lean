/- The plain law of sets of bits: words as lists of numbers, the numbers of the set bits, their count, the first one. No program in sight. -/
import Derived.Lib.TrailingZeros
import Derived.Lib.BitFns
import Derived.Lib.ItoaNum
import Derived.Lib.ItoaLen
import Derived.Lib.Join
namespace Go.Proofs.YtckdcceglmlinaaDoor
open Go

theorem sorted_ext : ∀ {l m : List Nat}, l.Pairwise (· < ·) → m.Pairwise (· < ·) → (∀ x, x ∈ l ↔ x ∈ m) → l = m
  | [], [], _, _, _ => rfl
  | [], b :: m, _, _, h => absurd ((h b).2 (List.mem_cons_self ..)) (by simp)
  | a :: l, [], _, _, h => absurd ((h a).1 (List.mem_cons_self ..)) (by simp)
  | a :: l, b :: m, hl, hm, h => by
    rw [List.pairwise_cons] at hl hm
    have hab : a = b := by
      have h1 := (h a).1 (List.mem_cons_self ..)
      have h2 := (h b).2 (List.mem_cons_self ..)
      rcases List.mem_cons.1 h1 with e | e
      · exact e
      · rcases List.mem_cons.1 h2 with e' | e'
        · exact e'.symm
        · have := hm.1 a e; have := hl.1 b e'; omega
    subst hab
    congr 1
    refine sorted_ext hl.2 hm.2 fun x => ⟨fun hx => ?_, fun hx => ?_⟩
    · rcases List.mem_cons.1 ((h x).1 (List.mem_cons_of_mem _ hx)) with e | e
      · have := hl.1 x hx; omega
      · exact e
    · rcases List.mem_cons.1 ((h x).2 (List.mem_cons_of_mem _ hx)) with e | e
      · have := hm.1 x hx; omega
      · exact e

/-- the set bits of a word -/
def onesOf (x : Nat) : List Nat := (List.range 64).filter fun i => x.testBit i
theorem mem_onesOf {x i : Nat} : i ∈ onesOf x ↔ i < 64 ∧ x.testBit i = true := by simp [onesOf]
theorem onesOf_sorted (x : Nat) : (onesOf x).Pairwise (· < ·) := List.Pairwise.sublist List.filter_sublist List.pairwise_lt_range
theorem onesOf_len (x : Nat) : (onesOf x).length ≤ 64 := by
  have := List.length_filter_le (fun i => x.testBit i) (List.range 64)
  simpa [onesOf] using this
theorem onesOf_zero : onesOf 0 = [] := by simp [onesOf]

/-- a bit of words -/
def bitAt (ws : List Nat) (i : Nat) : Bool := (ws.getD (i / 64) 0).testBit (i % 64)
/-- the set bits of the first k words -/
def bitsK (ws : List Nat) (k : Nat) : List Nat := (List.range k).flatMap fun i => (onesOf (ws.getD i 0)).map (i * 64 + ·)
theorem bitsK_zero (ws : List Nat) : bitsK ws 0 = [] := rfl
theorem bitsK_succ (ws : List Nat) (k : Nat) : bitsK ws (k + 1) = bitsK ws k ++ (onesOf (ws.getD k 0)).map (k * 64 + ·) := by
  simp [bitsK, List.range_succ]
theorem mem_bitsK {ws : List Nat} {k n : Nat} : n ∈ bitsK ws k ↔ n < k * 64 ∧ bitAt ws n = true := by
  induction k with
  | zero => simp [bitsK]
  | succ k ih =>
    rw [bitsK_succ, List.mem_append, ih, List.mem_map]
    constructor
    · rintro (⟨h1, h2⟩ | ⟨i, hi, rfl⟩)
      · exact ⟨by omega, h2⟩
      · obtain ⟨h1, h2⟩ := mem_onesOf.1 hi
        refine ⟨by omega, ?_⟩
        unfold bitAt
        rw [show (k * 64 + i) / 64 = k by omega, show (k * 64 + i) % 64 = i by omega]
        exact h2
    · rintro ⟨h1, h2⟩
      by_cases hk : n < k * 64
      · exact .inl ⟨hk, h2⟩
      · refine .inr ⟨n - k * 64, mem_onesOf.2 ⟨by omega, ?_⟩, by omega⟩
        unfold bitAt at h2
        rw [show n / 64 = k by omega, show n % 64 = n - k * 64 by omega] at h2
        exact h2
theorem bitsK_sorted (ws : List Nat) (k : Nat) : (bitsK ws k).Pairwise (· < ·) := by
  induction k with
  | zero => simp [bitsK]
  | succ k ih =>
    rw [bitsK_succ, List.pairwise_append]
    refine ⟨ih, ?_, ?_⟩
    · rw [List.pairwise_map]
      exact (onesOf_sorted _).imp fun h => by omega
    · intro a ha b hb
      have := (mem_bitsK.1 ha).1
      obtain ⟨i, _, rfl⟩ := List.mem_map.1 hb
      omega
theorem bitsK_len (ws : List Nat) (k : Nat) : (bitsK ws k).length ≤ k * 64 := by
  induction k with
  | zero => simp [bitsK]
  | succ k ih =>
    rw [bitsK_succ, List.length_append, List.length_map]
    have := onesOf_len (ws.getD k 0)
    omega
def bitsW (ws : List Nat) : List Nat := bitsK ws ws.length

/-! ### setting and clearing -/
def growW (ws : List Nat) (n : Nat) : List Nat := ws ++ List.replicate (n - ws.length) 0
theorem growW_len (ws : List Nat) (n : Nat) : (growW ws n).length = max ws.length n := by simp [growW]; omega
theorem growW_getD (ws : List Nat) (n k : Nat) : (growW ws n).getD k 0 = ws.getD k 0 := by
  simp only [growW, List.getD_eq_getElem?_getD, List.getElem?_append, List.getElem?_replicate]
  split
  · rfl
  · rename_i h
    rw [List.getElem?_eq_none (by omega)]
    split <;> rfl
theorem growW_le (ws : List Nat) (n : Nat) (h : n ≤ ws.length) : growW ws n = ws := by
  simp [growW, Nat.sub_eq_zero_of_le h]
def addW (ws : List Nat) (v : Nat) : List Nat := (growW ws (v / 64 + 1)).set (v / 64) (ws.getD (v / 64) 0 ||| 2 ^ (v % 64))
def clearW (ws : List Nat) (v : Nat) : List Nat := ws.set (v / 64) (ws.getD (v / 64) 0 &&& (2 ^ 64 - (2 ^ (v % 64) + 1)))
theorem getD_set (l : List Nat) (i j x : Nat) (h : i < l.length) : (l.set i x).getD j 0 = if i = j then x else l.getD j 0 := by
  simp only [List.getD_eq_getElem?_getD, List.getElem?_set]
  split
  · rename_i e; subst e; simp
  · rfl
theorem bitAt_add (ws : List Nat) (v i : Nat) : bitAt (addW ws v) i = (decide (i = v) || bitAt ws i) := by
  unfold bitAt addW
  rw [getD_set _ _ _ _ (by rw [growW_len]; omega), growW_getD]
  split
  · rename_i h
    rw [Nat.testBit_or, Nat.testBit_two_pow, Bool.or_comm, h]
    congr 1
    rw [decide_eq_decide]; omega
  · rename_i h
    have : ¬ i = v := fun e => h (by rw [e])
    simp [this]
theorem bitAt_clear (ws : List Nat) (v i : Nat) : bitAt (clearW ws v) i = (!decide (i = v) && bitAt ws i) := by
  unfold bitAt clearW
  by_cases hl : v / 64 < ws.length
  · rw [getD_set _ _ _ _ hl]
    split
    · rename_i h
      have hp : 2 ^ (v % 64) < 2 ^ 64 := Nat.pow_lt_pow_right (by omega) (by omega)
      rw [Nat.testBit_and, Nat.testBit_two_pow_sub_succ hp, Nat.testBit_two_pow, Bool.and_comm, h]
      congr 1
      have : i % 64 < 64 := by omega
      simp only [this, decide_true, Bool.true_and]
      congr 1
      rw [decide_eq_decide]; omega
    · rename_i h
      have : ¬ i = v := fun e => h (by rw [e])
      simp [this]
  · rw [List.set_eq_of_length_le (by omega)]
    by_cases h : i = v
    · subst h
      rw [List.getD_eq_getElem?_getD, List.getElem?_eq_none (by omega)]
      simp
    · simp [h]
theorem getD_lt {ws : List Nat} {B : Nat} (h : ∀ x ∈ ws, x < B) (hB : 0 < B) (k : Nat) : ws.getD k 0 < B := by
  rw [List.getD_eq_getElem?_getD]
  rcases Nat.lt_or_ge k ws.length with hk | hk
  · rw [List.getElem?_eq_getElem hk]; exact h _ (List.getElem_mem hk)
  · rw [List.getElem?_eq_none hk]; exact hB
theorem addW_lt {ws : List Nat} (h : ∀ x ∈ ws, x < 2 ^ 64) (v : Nat) : ∀ x ∈ addW ws v, x < 2 ^ 64 := by
  intro x hx
  rcases List.mem_or_eq_of_mem_set hx with h1 | rfl
  · rcases List.mem_append.1 h1 with h2 | h2
    · exact h x h2
    · have := List.eq_of_mem_replicate h2; omega
  · exact Nat.or_lt_two_pow (getD_lt h (by decide) _) (Nat.pow_lt_pow_right (by omega) (by omega))
theorem clearW_lt {ws : List Nat} (h : ∀ x ∈ ws, x < 2 ^ 64) (v : Nat) : ∀ x ∈ clearW ws v, x < 2 ^ 64 := by
  intro x hx
  rcases List.mem_or_eq_of_mem_set hx with h1 | rfl
  · exact h x h1
  · exact Nat.lt_of_le_of_lt Nat.and_le_left (getD_lt h (by decide) _)
theorem addW_len (ws : List Nat) (v : Nat) : (addW ws v).length = max ws.length (v / 64 + 1) := by simp [addW, growW_len]
theorem clearW_len (ws : List Nat) (v : Nat) : (clearW ws v).length = ws.length := by simp [clearW]

/-! ### the reference -/
/-- the numbers at which it is true -/
def trues (bs : List Bool) : List Nat := (List.range bs.length).filter fun i => bs.getD i false
theorem mem_trues {bs : List Bool} {n : Nat} : n ∈ trues bs ↔ bs.getD n false = true := by
  simp only [trues, List.mem_filter, List.mem_range, and_iff_right_iff_imp]
  intro h
  rcases Nat.lt_or_ge n bs.length with hk | hk
  · exact hk
  · rw [List.getD_eq_getElem?_getD, List.getElem?_eq_none hk] at h; cases h
theorem trues_sorted (bs : List Bool) : (trues bs).Pairwise (· < ·) := List.Pairwise.sublist List.filter_sublist List.pairwise_lt_range
theorem trues_len (bs : List Bool) : (trues bs).length ≤ bs.length := by
  have := List.length_filter_le (fun i => bs.getD i false) (List.range bs.length)
  simpa [trues] using this
def truesK (bs : List Bool) (k : Nat) : List Nat := (List.range k).filter fun i => bs.getD i false
theorem truesK_succ (bs : List Bool) (k : Nat) : truesK bs (k + 1) = if bs.getD k false then truesK bs k ++ [k] else truesK bs k := by
  simp only [truesK, List.range_succ, List.filter_append, List.filter_cons, List.filter_nil]
  split <;> simp
theorem truesK_len (bs : List Bool) (k : Nat) : (truesK bs k).length ≤ k := by
  have := List.length_filter_le (fun i => bs.getD i false) (List.range k)
  simpa [truesK] using this
/-- words and reference agree -/
def Agree (ws : List Nat) (bs : List Bool) : Prop := ∀ i, bitAt ws i = bs.getD i false
theorem Agree.bits {ws : List Nat} {bs : List Bool} (h : Agree ws bs) : bitsW ws = trues bs := by
  refine sorted_ext (bitsK_sorted _ _) (trues_sorted _) fun n => ?_
  unfold bitsW
  rw [mem_bitsK, mem_trues, ← h n]
  refine ⟨fun h => h.2, fun h => ⟨?_, h⟩⟩
  apply Nat.lt_of_not_le
  intro hle
  unfold bitAt at h
  rw [List.getD_eq_getElem?_getD, List.getElem?_eq_none (by omega)] at h
  simp at h
theorem getD_set_b (l : List Bool) (i j : Nat) (x : Bool) (h : i < l.length) : (l.set i x).getD j false = if i = j then x else l.getD j false := by
  simp only [List.getD_eq_getElem?_getD, List.getElem?_set]
  split
  · rename_i e; subst e; simp
  · rfl
theorem Agree.add {ws : List Nat} {bs : List Bool} (h : Agree ws bs) {v : Nat} (hv : v < bs.length) : Agree (addW ws v) (bs.set v true) := by
  intro i
  rw [bitAt_add, getD_set_b _ _ _ _ hv, h i]
  by_cases e : i = v
  · simp [e]
  · simp [e, Ne.symm e]
theorem Agree.clear {ws : List Nat} {bs : List Bool} (h : Agree ws bs) {v : Nat} (hv : v < bs.length) : Agree (clearW ws v) (bs.set v false) := by
  intro i
  rw [bitAt_clear, getD_set_b _ _ _ _ hv, h i]
  by_cases e : i = v
  · simp [e]
  · simp [e, Ne.symm e]
theorem Agree.start (n : Nat) : Agree [] (List.replicate n false) := by
  intro i
  unfold bitAt
  rw [List.getD_eq_getElem?_getD, List.getD_eq_getElem?_getD, List.getElem?_replicate]
  split <;> simp

/-! ### counting, the first one -/
theorem popAux_eq : ∀ (f x : Nat), Lib.popAux f x = ((List.range f).filter fun i => x.testBit i).length
  | 0, _ => rfl
  | f + 1, x => by
    rw [Lib.popAux, popAux_eq f (x / 2), List.range_succ_eq_map, List.filter_cons, List.filter_map]
    have h0 : x.testBit 0 = decide (x % 2 = 1) := by rw [Nat.testBit_zero]
    have hs : ((fun i => x.testBit i) ∘ Nat.succ) = fun i => (x / 2).testBit i := by funext i; simp [Nat.testBit_succ]
    rw [h0, hs]
    have h2 : x % 2 = 0 ∨ x % 2 = 1 := by omega
    rcases h2 with h2 | h2
    · simp [h2]
    · simp [h2]; omega
theorem onesCount_eq (x : Nat) : Lib.onesCount x = (onesOf x).length := popAux_eq 64 x

/-- the lowest set bit taken away -/
def dropLow (x : Nat) : Nat := x &&& (2 ^ 64 - (2 ^ Lib.ctz 64 x + 1))
theorem ctz_spec {x : Nat} (h0 : x ≠ 0) (h : x < 2 ^ 64) : Lib.ctz 64 x < 64 ∧ x.testBit (Lib.ctz 64 x) = true ∧ ∀ j, j < Lib.ctz 64 x → x.testBit j = false := by
  unfold Lib.ctz
  rw [if_neg h0]
  obtain ⟨m, hm, hk⟩ := Lib.ctzFrom_spec 64 x (by omega) h
  generalize Lib.ctzFrom 64 x = k at *
  subst hm
  refine ⟨hk, ?_, fun j hj => ?_⟩
  · rw [Nat.mul_comm, Nat.testBit_mul_two_pow]; simp [Nat.testBit_zero]
  · rw [Nat.mul_comm, Nat.testBit_mul_two_pow]; simp; omega
theorem dropLow_lt {x : Nat} (h : x < 2 ^ 64) : dropLow x < 2 ^ 64 := Nat.lt_of_le_of_lt Nat.and_le_left h
theorem onesOf_cons {x : Nat} (h0 : x ≠ 0) (h : x < 2 ^ 64) : onesOf x = Lib.ctz 64 x :: onesOf (dropLow x) := by
  obtain ⟨h1, h2, h3⟩ := ctz_spec h0 h
  have hp : 2 ^ Lib.ctz 64 x < 2 ^ 64 := Nat.pow_lt_pow_right (by omega) h1
  have hd : ∀ j, j < 64 → (dropLow x).testBit j = (x.testBit j && !decide (Lib.ctz 64 x = j)) := by
    intro j hj
    unfold dropLow
    rw [Nat.testBit_and, Nat.testBit_two_pow_sub_succ hp, Nat.testBit_two_pow]
    simp [hj]
  refine sorted_ext (onesOf_sorted _) ?_ fun n => ?_
  · rw [List.pairwise_cons]
    refine ⟨fun n hn => ?_, onesOf_sorted _⟩
    obtain ⟨hn1, hn2⟩ := mem_onesOf.1 hn
    rw [hd n hn1] at hn2
    simp only [Bool.and_eq_true, Bool.not_eq_true', decide_eq_false_iff_not] at hn2
    rcases Nat.lt_trichotomy n (Lib.ctz 64 x) with hlt | he | hgt
    · rw [h3 n hlt] at hn2; exact absurd hn2.1 (by simp)
    · exact absurd he.symm hn2.2
    · exact hgt
  · rw [List.mem_cons, mem_onesOf, mem_onesOf]
    constructor
    · rintro ⟨a, b⟩
      by_cases e : n = Lib.ctz 64 x
      · exact .inl e
      · exact .inr ⟨a, by rw [hd n a, b]; simp; exact fun h => e h.symm⟩
    · rintro (rfl | ⟨a, b⟩)
      · exact ⟨h1, h2⟩
      · rw [hd n a] at b
        simp only [Bool.and_eq_true] at b
        exact ⟨a, b.1⟩
theorem onesOf_nil {x : Nat} (h : x < 2 ^ 64) (hn : onesOf x = []) : x = 0 := by
  by_cases h0 : x = 0
  · exact h0
  · rw [onesOf_cons h0 h] at hn; cases hn

/-! ### the text -/
/-- numbers in braces -/
def textOf (l : List Nat) : List UInt8 := 123 :: Lib.join (l.map fun (n : Nat) => Lib.itoa (n : Int)) [44, 32] ++ [125]
theorem join_snoc (l : List (List UInt8)) (x sep : List UInt8) : Lib.join (l ++ [x]) sep = if l = [] then x else Lib.join l sep ++ (sep ++ x) := by
  cases l with
  | nil => simp [Lib.join_one]
  | cons a r => simp [Lib.join_cons, Lib.joinTail, List.append_assoc]
theorem itoa_len (n : Nat) (h : n ≤ 1000000) : (Lib.itoa (n : Int)).length ≤ 21 := Lib.itoa_length_le _ (by omega) (by omega)
theorem joinTail_len (sep : List UInt8) (l : List (List UInt8)) (B : Nat) (h : ∀ x ∈ l, x.length ≤ B) : (Lib.joinTail sep l).length ≤ (sep.length + B) * l.length := by
  induction l with
  | nil => simp [Lib.joinTail]
  | cons a r ih =>
    have h1 := ih fun x hx => h x (List.mem_cons_of_mem _ hx)
    have h2 := h a (List.mem_cons_self ..)
    simp only [Lib.joinTail, List.map_cons, List.flatten_cons, List.length_append, List.length_cons] at h1 ⊢
    rw [Nat.mul_succ]; omega
theorem join_len (sep : List UInt8) (l : List (List UInt8)) (B : Nat) (h : ∀ x ∈ l, x.length ≤ B) : (Lib.join l sep).length ≤ (sep.length + B) * l.length := by
  cases l with
  | nil => simp [Lib.join, List.intercalate]
  | cons a r =>
    rw [Lib.join_cons, List.length_append]
    have h1 := joinTail_len sep r B fun x hx => h x (List.mem_cons_of_mem _ hx)
    have h2 := h a (List.mem_cons_self ..)
    rw [List.length_cons, Nat.mul_succ]; omega
end Go.Proofs.YtckdcceglmlinaaDoor
