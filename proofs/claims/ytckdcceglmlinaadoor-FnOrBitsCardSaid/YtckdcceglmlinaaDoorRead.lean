/- The walks that read a set of bits. Condition: words below 2^64, at most 100 of them. -/
import Derived.Test.YtckdcceglmlinaaDoorWord
namespace Go.Proofs.YtckdcceglmlinaaDoor
open Go.RowKit
set_option linter.unusedSimpArgs false

def wds (ws : List Nat) : List Value := ws.map fun (n : Nat) => Value.int .u64 (n : Int)
theorem wds_length (ws : List Nat) : (wds ws).length = ws.length := by simp [wds]
theorem wds_at {ws : List Nat} {k : Nat} {u : Value} (h : (wds ws)[k]? = some u) : ∃ n : Nat, ws[k]? = some n ∧ u = .int .u64 (n : Int) := by
  simp only [wds, List.getElem?_map, Option.map_eq_some_iff] at h
  obtain ⟨v, h1, h2⟩ := h
  exact ⟨v, h1, h2.symm⟩
/-- a set of bits that reads -/
def BitR (w : World) (g : Nat) (ws : List Nat) : Prop := ∃ A c, Blk w g 53 #[.slice A ws.length c] ∧ Reads w w.heap.size 1 A ws.length (wds ws)
/-- its words are words, and few -/
def Sm (ws : List Nat) : Prop := (∀ x ∈ ws, x < 18446744073709551616) ∧ ws.length ≤ 100
theorem BitR.ext {w w' : World} {g : Nat} {ws : List Nat} (h : BitR w g ws) (hb : Below w.heap.size w w') : BitR w' g ws := by
  obtain ⟨A, c, h1, h2⟩ := h
  exact ⟨A, c, h1.below hb h1.lt, h2.ext hb⟩
theorem getD_at {ws : List Nat} {k n : Nat} (h : ws[k]? = some n) : ws.getD k 0 = n := by rw [List.getD_eq_getElem?_getD, h]; rfl
theorem Sm.at {ws : List Nat} {k n : Nat} (h : Sm ws) (hk : ws[k]? = some n) : n < 18446744073709551616 := h.1 n (List.mem_of_getElem? hk)

theorem pow_lt (v : Nat) : 2 ^ (v % 64) < 18446744073709551616 := show 2 ^ (v % 64) < 2 ^ 64 from Nat.pow_lt_pow_right (by omega) (by omega)
theorem and_pow_ne (n k : Nat) : (((n &&& 2 ^ k : Nat) : Int) != 0) = n.testBit k := by
  cases h : n.testBit k
  · have e : n &&& 2 ^ k = 0 := by
      apply Nat.eq_of_testBit_eq
      intro i
      rw [Nat.testBit_and, Nat.testBit_two_pow, Nat.zero_testBit]
      by_cases hi : k = i
      · subst hi; simp [h]
      · simp [hi]
    rw [e]; rfl
  · have e : n &&& 2 ^ k ≠ 0 := by
      intro h0
      have : (n &&& 2 ^ k).testBit k = true := by rw [Nat.testBit_and, Nat.testBit_two_pow, h]; simp
      rw [h0, Nat.zero_testBit] at this; cases this
    simp; omega
theorem contains_any (g v : Nat) (ws : List Nat) (w : World) (h : BitR w g ws) (hs : Sm ws) (hv : v ≤ 1000) :
    Calls Tryd.prog 22 #[.pointer (some ⟨g, 0, none⟩), .int .i64 (v : Int)] w (BelPost (.bool (bitAt ws v)) w) := by
  obtain ⟨A, c, h1, h2⟩ := h
  have H1 := Lib.hid h1
  have H2 := Lib.hid h2
  have e0 := h1.cell 0
  simp at e0
  have hl := hs.2
  have HS := Lib.hid hs
  clear h1 h2 hs
  go_enter Tryd.func22, Tryd.ntmps22
  go_wp2_with fail
  refine (idx_any v hv w).mono ?_
  rintro e w1 ⟨rfl, rfl⟩
  generalize hQ : v / 64 = q at *
  have HQ := Lib.hid hQ
  have z0 : (0 : Int) ≤ (q : Int) := by omega
  clear hQ
  by_cases hlt : q < ws.length
  · obtain ⟨b, off, u, rfl, _, hu, hc⟩ := H2.out.at1 hlt
    obtain ⟨n, hn, rfl⟩ := wds_at hu
    have HN := Lib.hid (getD_at hn)
    have HL := Lib.hid (HS.out.at hn)
    clear hu hn
    have hq : bits BinOp.and .u64 (n : Int) ((2 ^ (v % 64) : Nat) : Int) = ((n &&& 2 ^ (v % 64) : Nat) : Int) := bits_and_u64_nat _ _ HL.out (pow_lt v)
    generalize hM : 2 ^ (v % 64) = M at *
    have HM := Lib.hid hM
    clear hM
    have hlt' : (q : Int) < (ws.length : Int) := by omega
    go_wp2_with fail
    refine wp_region_order (fun w' => w' = w1.drew) [0, 1, 2, 3, 4, 5, 6, 7, 8, 9, 10, 11] [] (by kernel_rfl) (by kernel_rfl) rfl ?_
    iterate 8
      apply TakesThen.cons rfl rfl
      · intro w' hw'
        subst hw'
        go_simp
        with_reducible rfl
      simp only [Act.put, List.getElem_toArray, List.getElem_cons_succ, List.getElem_cons_zero, List.setIfInBounds_toArray, List.set_cons_zero, List.set_cons_succ]
    refine TakesThen.call 33 #[.int .i64 (v : Int)] (v := .int .u64 (M : Int)) rfl rfl ?_ ?_ ?_
    · intro w' hw'
      go_simp
    · intro w' hw'
      rw [← HM.out]
      exact mask_any v hv w'
    simp only [Act.put, List.getElem_toArray, List.getElem_cons_succ, List.getElem_cons_zero, List.setIfInBounds_toArray, List.set_cons_zero, List.set_cons_succ]
    iterate 3
      apply TakesThen.cons rfl rfl
      · intro w' hw'
        go_simp
        with_reducible rfl
      simp only [Act.put, List.getElem_toArray, List.getElem_cons_succ, List.getElem_cons_zero, List.setIfInBounds_toArray, List.set_cons_zero, List.set_cons_succ]
    refine TakesThen.nil (Chain.nil ?_)
    have HF := Lib.hid (show (((n &&& M : Nat) : Int) != 0) = bitAt ws v by
      unfold bitAt
      rw [HQ.out, HN.out, ← HM.out]
      exact and_pow_ne n (v % 64))
    go_wp2_with fail
    go_ret
    rw [← HF.out]
    exact ⟨rfl, (Below.refl _ _).drew⟩
  · have HF := Lib.hid (show bitAt ws v = false by
      unfold bitAt
      rw [HQ.out, List.getD_eq_getElem?_getD, List.getElem?_eq_none (by omega)]; simp)
    go_wp2_with fail
    go_ret
    rw [HF.out]
    exact ⟨rfl, Below.refl _ _⟩
set_option maxHeartbeats 800000 in
theorem length_any (g : Nat) (ws : List Nat) (w : World) (h : BitR w g ws) (hs : Sm ws) :
    Calls Tryd.prog 23 #[.pointer (some ⟨g, 0, none⟩)] w (fun e w' => e = .returned (.int .i64 (((bitsW ws).length : Nat) : Int)) ∧ w' = w) := by
  obtain ⟨A, c, h1, h2⟩ := h
  have H2 := Lib.hid h2
  have e0 := h1.cell 0
  simp at e0
  have hl := hs.2
  have HS := Lib.hid hs
  clear h1 h2 hs
  go_enter Tryd.func23, Tryd.ntmps23
  go_wp2_with fail
  go_loop [3, 11] (fun n i => ∃ k : Nat, k ≤ ws.length ∧ i = .int .i64 k ∧ n = .int .i64 (((bitsK ws k).length : Nat) : Int)) (fun _ i => ws.length - (intOf i).toNat)
  case atStart => exact ⟨0, Nat.zero_le _, rfl, rfl⟩
  case round =>
    obtain ⟨k, hk, rfl, rfl⟩ := hrel
    by_cases hlt : k < ws.length
    · obtain ⟨b, off, u, rfl, _, hu, hc⟩ := H2.out.at1 hlt
      obtain ⟨n, hn, rfl⟩ := wds_at hu
      have HL := Lib.hid (HS.out.at hn)
      have hsum : (bitsK ws (k + 1)).length = (bitsK ws k).length + Lib.onesCount n := by
        rw [bitsK_succ, List.length_append, List.length_map, getD_at hn, onesCount_eq]
      have hb1 := bitsK_len ws k
      have hb2 : Lib.onesCount n ≤ 64 := by rw [onesCount_eq]; exact onesOf_len n
      have HSUM := Lib.hid hsum
      clear hu hn hsum
      generalize (bitsK ws k).length = m at *
      go_wp2_with fail
      refine (ones_any n HL.out w).mono ?_
      rintro e w1 ⟨rfl, rfl⟩
      generalize Lib.onesCount n = o at *
      go_wp2_with fail
      go_round
      case rel => exact ⟨k + 1, by omega, by go_num, by rw [HSUM.out]; go_num⟩
      case measure => simp [intOf]; omega
    · have hkn : k = ws.length := by omega
      subst hkn
      go_wp2_with fail
      go_ret
      exact ⟨rfl, rfl⟩

/-- the first set bit -/
def MinPost (ws : List Nat) (w : World) (e : Ending) (w' : World) : Prop := ∃ m : Int, e = .returned (.int .i64 m) ∧ (∀ n t, bitsW ws = n :: t → m = (n : Int)) ∧ w' = w
theorem bitsK_prefix (ws : List Nat) (k n : Nat) (h : k ≤ n) : ∃ t, bitsK ws n = bitsK ws k ++ t := by
  induction n with
  | zero => obtain rfl : k = 0 := by omega
            exact ⟨[], by simp⟩
  | succ n ih =>
    rcases Nat.lt_or_ge n k with h1 | h1
    · obtain rfl : k = n + 1 := by omega
      exact ⟨[], by simp⟩
    · obtain ⟨t, ht⟩ := ih h1
      exact ⟨t ++ (onesOf (ws.getD n 0)).map (n * 64 + ·), by rw [bitsK_succ, ht, List.append_assoc]⟩
set_option maxHeartbeats 800000 in
theorem minValue_any (g : Nat) (ws : List Nat) (w : World) (h : BitR w g ws) (hs : Sm ws) (hT : TabAt 0 Lib.deBruijn64tab w) :
    Calls Tryd.prog 24 #[.pointer (some ⟨g, 0, none⟩)] w (MinPost ws w) := by
  obtain ⟨A, c, h1, h2⟩ := h
  have H2 := Lib.hid h2
  have e0 := h1.cell 0
  simp at e0
  have hl := hs.2
  have HS := Lib.hid hs
  have HT := Lib.hid hT
  clear h1 h2 hs hT
  go_enter Tryd.func24, Tryd.ntmps24
  go_wp2_with fail
  go_loop [10] (fun i => ∃ k : Nat, k ≤ ws.length ∧ i = .int .i64 k ∧ Hid (bitsK ws k = [])) (fun i => ws.length - (intOf i).toNat)
  case atStart => exact ⟨0, Nat.zero_le _, rfl, Lib.hid rfl⟩
  case round =>
    obtain ⟨k, hk, rfl, HK⟩ := hrel
    by_cases hlt : k < ws.length
    · obtain ⟨b, off, u, rfl, _, hu, hc⟩ := H2.out.at1 hlt
      obtain ⟨n, hn, rfl⟩ := wds_at hu
      have HL := Lib.hid (HS.out.at hn)
      have HSUC := Lib.hid (show bitsK ws (k + 1) = (onesOf n).map (k * 64 + ·) by rw [bitsK_succ, getD_at hn, HK.out]; rfl)
      clear hu hn
      by_cases h0 : n = 0
      · subst h0
        go_wp2_with fail
        go_round
        case rel => exact ⟨k + 1, by omega, by go_num, Lib.hid (by rw [HSUC.out, onesOf_zero]; rfl)⟩
        case measure => simp [intOf]; omega
      · have hn0 : ((n : Int) == 0) = false := by rw [beq_eq_false_iff_ne]; omega
        have HZ := Lib.hid (ctz_spec h0 HL.out)
        have hz := HZ.out.1
        have HO := Lib.hid (onesOf_cons h0 HL.out)
        go_wp2_with fail
        refine (tz_any n h0 HL.out w HT.out).mono ?_
        rintro e w1 ⟨rfl, rfl⟩
        generalize Lib.ctz 64 n = z at *
        go_wp2_with fail
        go_ret
        refine ⟨_, rfl, fun m t hm => ?_, rfl⟩
        obtain ⟨t', ht'⟩ := bitsK_prefix ws (k + 1) ws.length (by omega)
        unfold bitsW at hm
        rw [ht', HSUC.out, HO.out] at hm
        simp at hm
        omega
    · have hkn : k = ws.length := by omega
      subst hkn
      go_wp2_with fail
      go_ret
      refine ⟨_, rfl, fun m t hm => ?_, rfl⟩
      unfold bitsW at hm
      rw [HK.out] at hm; cases hm
end Go.Proofs.YtckdcceglmlinaaDoor
