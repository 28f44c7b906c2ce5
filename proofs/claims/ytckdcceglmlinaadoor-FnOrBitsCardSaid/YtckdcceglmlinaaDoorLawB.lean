/- The walk of the law FnBits. Condition: the tables lie as the program lays them. -/
import Derived.Test.YtckdcceglmlinaaDoorStr2
import Derived.Handy
namespace Go.Proofs.YtckdcceglmlinaaDoor
open Go.RowKit
set_option linter.unusedSimpArgs false

def Yes (w : World) (e : Ending) (w' : World) : Prop := e = .returned (.bool true) ∧ Below w.heap.size w w'
theorem natI_reads_nat {w : World} {B : Nat} {A : Option Addr} {L : List Nat} {k : Nat} (h : Reads w B 1 A L.length (natI L)) (hk : k < L.length) : ∃ b off n, A = some ⟨b, off, none⟩ ∧ L[k]? = some n ∧ w.cell? ⟨b, off + k, none⟩ = some (.int .i64 (n : Int)) := by
  obtain ⟨b, off, u, hA, _, hu, hc⟩ := h.at1 hk
  obtain ⟨n, hn, rfl⟩ := natI_at hu
  exact ⟨b, off, n, hA, hn, hc⟩
theorem zzContains_any (g v : Nat) (ws : List Nat) (w : World) (h : BitR w g ws) (hs : Sm ws) (hv : v ≤ 1000) :
    Calls Tryd.prog 12 #[.pointer (some ⟨g, 0, none⟩), .int .i64 (v : Int)] w (BelPost (.bool (bitAt ws v)) w) := by
  have HC := Lib.hid (contains_any g v ws w h hs hv)
  clear h hs
  go_enter Tryd.func12, Tryd.ntmps12
  go_wp2_with fail
  refine HC.out.mono ?_
  rintro e w1 ⟨rfl, hb⟩
  have HB := Lib.hid hb
  clear hb
  go_wp2_with fail
  go_ret
  exact ⟨rfl, HB.out⟩
theorem zzLength_any (g : Nat) (ws : List Nat) (w : World) (h : BitR w g ws) (hs : Sm ws) :
    Calls Tryd.prog 13 #[.pointer (some ⟨g, 0, none⟩)] w (fun e w' => e = .returned (.int .i64 (((bitsW ws).length : Nat) : Int)) ∧ w' = w) := by
  have HC := Lib.hid (length_any g ws w h hs)
  clear h hs
  go_enter Tryd.func13, Tryd.ntmps13
  go_wp2_with fail
  refine HC.out.mono ?_
  rintro e w1 ⟨rfl, rfl⟩
  go_wp2_with fail
  go_ret
  exact ⟨rfl, rfl⟩
theorem zzMinValue_any (g : Nat) (ws : List Nat) (w : World) (h : BitR w g ws) (hs : Sm ws) (hT : TabAt 0 Lib.deBruijn64tab w) :
    Calls Tryd.prog 14 #[.pointer (some ⟨g, 0, none⟩)] w (MinPost ws w) := by
  have HC := Lib.hid (minValue_any g ws w h hs hT)
  clear h hs hT
  go_enter Tryd.func14, Tryd.ntmps14
  go_wp2_with fail
  refine HC.out.mono ?_
  rintro e w1 ⟨m, rfl, hm, rfl⟩
  have HM := Lib.hid hm
  clear hm
  go_wp2_with fail
  go_ret
  exact ⟨m, rfl, HM.out, rfl⟩
/-- what impl.Bits tells -/
def ImplBits (bs : List Bool) (v : Nat) (w : World) (e : Ending) (w' : World) : Prop := ∃ m : Int, e = .returned (.tuple #[.bool (bs.getD v false), .int .i64 (((trues bs).length : Nat) : Int), .int .i64 m, .string (bts (textOf (trues bs)))]) ∧
  (∀ n t, trues bs = n :: t → m = (n : Int)) ∧ Below w.heap.size w w'
set_option maxHeartbeats 1000000 in
theorem implBitsTold_any (A : Option Addr) (c : Nat) (sts : List St) (bs : List Bool) (v : Nat) (w : World) (h : StIn w A sts) (hr : refB z400 sts = some bs) (hv : v ≤ 1000) (hT : Tabs w) :
    Calls Tryd.prog 7 #[.slice A sts.length c, .int .i64 (v : Int)] w (ImplBits bs v w) := by
  have HC := Lib.hid (implBits_any A c sts bs w h hr)
  have HT := Lib.hid hT
  clear h hr hT
  go_enter Tryd.func7, Tryd.ntmps7
  go_wp2_with fail
  refine HC.out.mono ?_
  rintro e w1 ⟨g, ws, rfl, ho, ha, hs, hb⟩
  have HR := Lib.hid ho.read
  have HA := Lib.hid ha
  have HS := Lib.hid hs.sm
  have HB := Lib.hid hb
  have HT1 := Lib.hid (HT.out.ext hb)
  clear ho ha hs hb HC
  go_wp2_with fail
  refine (zzContains_any g v ws w1 HR.out HS.out hv).mono ?_
  rintro e w2 ⟨rfl, hb2⟩
  have HR2 := Lib.hid (HR.out.ext hb2)
  have HT2 := Lib.hid (HT1.out.ext hb2)
  have HB2 := Lib.hid (below_trans HB.out hb2)
  clear hb2
  go_wp2_with fail
  refine (zzLength_any g ws w2 HR2.out HS.out).mono ?_
  rintro e w3 ⟨rfl, rfl⟩
  go_wp2_with fail
  refine (zzMinValue_any g ws w3 HR2.out HS.out HT2.out.1).mono ?_
  rintro e w4 ⟨m, rfl, hm, rfl⟩
  have HM := Lib.hid hm
  clear hm
  go_wp2_with fail
  refine (string_any g ws w4 HR2.out HS.out HT2.out).mono ?_
  rintro e w5 ⟨rfl, hb5⟩
  have HB5 := Lib.hid (below_trans HB2.out hb5)
  clear hb5
  go_wp2_with fail
  go_returns
  unfold ImplBits
  rw [← HA.out v, ← HA.out.bits]
  exact ⟨m, rfl, HM.out, HB5.out⟩
theorem beq_natCast (n v : Nat) : ((n : Int) == (v : Int)) = (n == v) := by rw [Bool.eq_iff_iff, beq_iff_eq, beq_iff_eq]; omega
theorem mem_any_take {L : List Nat} {k n v : Nat} (h : L[k]? = some n) : ((L.take (k + 1)).any (· == v)) = ((L.take k).any (· == v) || (n == v)) := by
  rw [take_snoc' _ _ _ h]; simp
theorem trues_any (bs : List Bool) (v : Nat) : ((trues bs).any (· == v)) = bs.getD v false := by
  rw [Bool.eq_iff_iff, List.any_eq_true]
  constructor
  · rintro ⟨x, hx, he⟩
    rw [beq_iff_eq] at he
    subst he
    exact mem_trues.1 hx
  · intro h
    exact ⟨v, mem_trues.2 h, by simp⟩
theorem trues_le {bs : List Bool} (hl : bs.length = 400) : ∀ n ∈ trues bs, n ≤ 1000000 := fun n hn => by
  have := mem_trues.1 hn
  rcases Nat.lt_or_ge n bs.length with h | h
  · omega
  · rw [List.getD_eq_getElem?_getD, List.getElem?_eq_none h] at this; simp at this
set_option maxRecDepth 20000 in
set_option maxHeartbeats 2000000 in
theorem lawBits_any (A : Option Addr) (c : Nat) (sts : List St) (ask : Int) (w : World) (h : Reads w w.heap.size 3 A sts.length (flat3 sts)) (hm : sts.length ≤ 9223372036854775807) (hT : Tabs w) :
    Calls Tryd.prog 3 #[.slice A sts.length c, .int .i64 ask] w (Yes w) := by
  have H := Lib.hid h
  have HT := Lib.hid hT
  clear h hT
  by_cases h1 : sts.length ≤ 2147483647
  · have HI : Hid (StIn w A sts) := Lib.hid ⟨H.out, h1⟩
    go_enter Tryd.func3, Tryd.ntmps3
    go_wp2_with fail
    refine (steps_any A c sts w H.out h1).mono ?_
    rintro e w1 ⟨A1, c1, rfl, ho1, hb1⟩
    have HO1 := Lib.hid (Reads.of_own ho1)
    have HB1 := Lib.hid hb1
    clear ho1 hb1
    go_wp2_with fail
    refine (specBits_any A1 c1 sts w1 HO1.out h1).mono ?_
    rintro e w2 ⟨A2, c2, L, ok, rfl, hl4, hr2, hok, hb2⟩
    have HR2 := Lib.hid hr2
    have HOK := Lib.hid hok
    have HB2 := Lib.hid (below_trans HB1.out hb2)
    clear hr2 hok hb2
    by_cases hcond : ok = true ∧ 0 ≤ ask ∧ ask ≤ 300
    · obtain ⟨rfl, ha0, ha1⟩ := hcond
      obtain ⟨v, rfl⟩ := Int.eq_ofNat_of_zero_le ha0
      have hv : v ≤ 1000 := by omega
      obtain ⟨bs, hrb, hbl, hL, _⟩ := HOK.out rfl
      have HRB := Lib.hid hrb
      have HL := Lib.hid hL
      have HTL := Lib.hid (show ∀ n ∈ L, n ≤ 1000000 by rw [hL]; exact trues_le hbl)
      clear hrb hL
      go_wp2_with fail
      go_loop [7, 35] (fun o i => ∃ k : Nat, k ≤ L.length ∧ i = .int .i64 k ∧ o = .bool ((L.take k).any (· == v))) (fun _ i => L.length - (intOf i).toNat)
      case atStart => exact ⟨0, Nat.zero_le _, rfl, by simp⟩
      case round =>
        obtain ⟨k, hk, rfl, rfl⟩ := hrel
        by_cases hlt : k < L.length
        · obtain ⟨b, off, n, rfl, hn, hc⟩ := natI_reads_nat HR2.out hlt
          have HN := Lib.hid (mem_any_take (v := v) hn)
          clear hn
          generalize hB : ((L.take k).any (· == v)) = B at *
          clear hB
          cases B
          · go_wp2_with fail
            go_round
            case rel => exact ⟨k + 1, by omega, by go_num, by rw [HN.out, Bool.false_or, beq_natCast]⟩
            case measure => simp [intOf]; omega
          · go_wp2_with fail
            go_round
            case rel => exact ⟨k + 1, by omega, by go_num, by rw [HN.out]; simp⟩
            case measure => simp [intOf]; omega
        · have hkn : k = L.length := by omega
          subst hkn
          rw [List.take_length]
          have HANY := Lib.hid (show L.any (· == v) = bs.getD v false by rw [HL.out]; exact trues_any bs v)
          obtain ⟨q, hq⟩ : ∃ q, bs.getD v false = q := ⟨_, rfl⟩
          rw [HANY.out, hq]
          have HQ := Lib.hid hq
          clear hq
          go_wp2_with fail
          refine (implBitsTold_any A c sts bs v w2 (HI.out.ext HB2.out) HRB.out hv (HT.out.ext HB2.out)).mono ?_
          rintro e w3 ⟨m, rfl, hmm, hb3⟩
          rw [← HL.out] at hmm ⊢
          rw [HQ.out]
          have HM := Lib.hid hmm
          have HB3 := Lib.hid (below_trans HB2.out hb3)
          have HR3 := Lib.hid (HR2.out.ext hb3)
          clear hmm hb3 HQ HL HANY
          have hl1 : L.length ≤ 1000 := by omega
          rcases L with _ | ⟨n0, t⟩
          · simp only [List.length_nil] at *
            go_wp2_with fail
            refine (text_any A2 c2 [] w3 HR3.out (by simp) (by simp)).mono ?_
            rintro e w4 ⟨rfl, hb4⟩
            have HB4 := Lib.hid (below_trans HB3.out hb4)
            clear hb4
            go_wp2_with fail
            go_ret
            exact ⟨by simp, HB4.out⟩
          · obtain ⟨b, off, n1, rfl, hn, hc⟩ := natI_reads_nat HR3.out (k := 0) (by simp)
            simp only [List.getElem?_cons_zero, Option.some.injEq] at hn
            subst hn
            have hmn : m = (n0 : Int) := HM.out n0 t rfl
            subst hmn
            simp only [Nat.add_zero] at hc
            have HTX := Lib.hid (text_any (some ⟨b, off, none⟩) c2 (n0 :: t) w3 HR3.out hl1 HTL.out)
            generalize hlen : (n0 :: t).length = N at *
            have hN0 : ((N : Int) == 0) = false := by rw [beq_eq_false_iff_ne]; simp at hlen; omega
            have hN1 : (0 : Int) < (N : Int) := by simp at hlen; omega
            generalize textOf (n0 :: t) = X at *
            clear hlen
            go_wp2_with fail
            refine HTX.out.mono ?_
            rintro e w4 ⟨rfl, hb4⟩
            have HB4 := Lib.hid (below_trans HB3.out hb4)
            clear hb4
            go_wp2_with fail
            go_ret
            exact ⟨by simp, HB4.out⟩
    · cases ok
      · go_wp2_with fail
        go_ret
        exact ⟨rfl, HB2.out⟩
      · by_cases ha0 : ask < 0
        · have ht : decide (ask < 0) = true := decide_eq_true ha0
          go_wp2_with fail
          go_ret
          exact ⟨rfl, HB2.out⟩
        · have ha1 : (300 : Int) < ask := by
            apply Decidable.byContradiction
            intro h
            exact hcond ⟨rfl, by omega, by omega⟩
          go_wp2_with fail
          go_ret
          exact ⟨rfl, HB2.out⟩
  · go_enter Tryd.func3, Tryd.ntmps3
    go_wp2_with fail
    go_ret
    exact ⟨rfl, Below.refl _ _⟩
end Go.Proofs.YtckdcceglmlinaaDoor
