/- The walks of the package's equals and OrBits, and of the law FnOrBits. Condition: the tables lie as the program lays them. -/
import Derived.Test.YtckdcceglmlinaaDoorOr
import Derived.LaidEqlPtr
import Derived.Handy
namespace Go.Proofs.YtckdcceglmlinaaDoor
open Go.RowKit
set_option linter.unusedSimpArgs false

/-- some truth value is handed back; there were but draws -/
def SomeB (w : World) (e : Ending) (w' : World) : Prop := ∃ (r : Bool) (n : Nat), e = .returned (.bool r) ∧ w' = w.drewN n
theorem below_drewN (w : World) (n : Nat) : Below w.heap.size w (w.drewN n) := ⟨rfl, rfl, rfl, Nat.le_refl _, fun _ _ => rfl⟩
theorem assert40 (w : World) (v : Value) : (Instr.typeAssert (.iface 40 v) 20 40 true).run Tryd.prog w = .ok (.tuple #[v, .bool true]) w := by
  kernel_rfl
theorem size53 : (Tryd.prog.info? 53).map (·.size) = some 1 := by kernel_rfl
theorem eqlP_other (w : World) {a b : Addr} {ca cb : Array Value} (hne : a ≠ b) (ha : w.heap[a.block]? = some (.cells ca 53 (0, 0))) (hb : w.heap[b.block]? = some (.cells cb 53 (0, 0))) :
    (binOp .eql 40 (.pointer (some a)) (.pointer (some b))).run Tryd.prog w = .ok (.bool false) w := by
  have h2 := size53
  cases e2 : Tryd.prog.info? 53 with
  | none => rw [e2] at h2; cases h2
  | some j => exact run_eql_ptr_other w Tryd.underlying40 e2 (by rw [e2] at h2; simp at h2; omega) hne ha hb
set_option maxRecDepth 20000 in
set_option maxHeartbeats 2000000 in
theorem equals_any (g g2 : Nat) (ws ws2 : List Nat) (w : World) (h : BitR w g ws) (h2 : BitR w g2 ws2) (hne : g ≠ g2) (hs : Sm ws) (hs2 : Sm ws2) :
    Calls Tryd.prog 28 #[.pointer (some ⟨g, 0, none⟩), .iface 40 (.pointer (some ⟨g2, 0, none⟩))] w (SomeB w) := by
  have HM1 := Lib.hid (minLen_any g ws w h hs)
  have HM2 := Lib.hid (minLen_any g2 ws2 w h2 hs2)
  obtain ⟨A1, c1, hB1, hr1⟩ := h
  obtain ⟨A2, c2, hB2, hr2⟩ := h2
  have heq := eqlP_other w (a := ⟨g, 0, none⟩) (b := ⟨g2, 0, none⟩) (by simp [hne]) hB1 hB2
  have e1 := hB1.cell 0
  have e2 := hB2.cell 0
  simp at e1 e2
  have HR1 := Lib.hid hr1
  have HR2 := Lib.hid hr2
  have hl := hs.2
  have hl2 := hs2.2
  clear hB1 hB2 hr1 hr2 hs hs2
  have has := assert40 w
  go_enter Tryd.func28, Tryd.ntmps28
  go_wp2_with fail
  refine HM1.out.mono ?_
  rintro e wx ⟨m1, rfl, hm1, _, rfl⟩
  go_wp2_with fail
  refine HM2.out.mono ?_
  rintro e wx2 ⟨m2, rfl, hm2, _, rfl⟩
  clear HM1 HM2 has
  by_cases hmm : m1 = m2
  · subst hmm
    go_wp2_with fail
    go_loopw [9] (fun i wr => ∃ (k n : Nat), k ≤ m1 ∧ i = .int .i64 k ∧ wr = wx2.drewN n) (fun i _ => m1 - (intOf i).toNat)
    case atStart => exact ⟨0, 0, Nat.zero_le _, rfl, rfl⟩
    case round =>
      obtain ⟨k, n, hk, rfl, rfl⟩ := hrel
      by_cases hlt : k < m1
      · obtain ⟨b, off, u, rfl, _, hu, hc⟩ := HR1.out.at1 (k := k) (by omega)
        obtain ⟨x, hx, rfl⟩ := wds_at hu
        obtain ⟨b2, off2, u2, rfl, _, hu2, hc2⟩ := HR2.out.at1 (k := k) (by omega)
        obtain ⟨y, hy, rfl⟩ := wds_at hu2
        have hk1 : (k : Int) < (ws.length : Int) := by omega
        have hk2 : (k : Int) < (ws2.length : Int) := by omega
        clear hu hx hu2 hy
        by_cases hxy : x = y
        · subst hxy
          go_wp2_with fail
          go_quiet (fail)
          go_wp2_with fail
          go_roundw
          case rel => exact ⟨k + 1, _, by omega, by go_num, rfl⟩
          case measure => simp [intOf]; omega
        · have hxy1 : ((x : Int) != (y : Int)) = true := by rw [bne_iff_ne]; omega
          go_wp2_with fail
          go_quiet (fail)
          go_wp2_with fail
          go_ret
          exact ⟨_, _, rfl, World.drewN_drewN ..⟩
      · have hkn : k = m1 := by omega
        subst hkn
        go_wp2_with fail
        go_ret
        exact ⟨_, _, rfl, rfl⟩
  · have hmm1 : ((m1 : Int) != (m2 : Int)) = true := by rw [bne_iff_ne]; omega
    go_wp2_with fail
    go_ret
    exact ⟨_, 0, rfl, rfl⟩
theorem zzEquals_any (g g2 : Nat) (ws ws2 : List Nat) (w : World) (h : BitR w g ws) (h2 : BitR w g2 ws2) (hne : g ≠ g2) (hs : Sm ws) (hs2 : Sm ws2) :
    Calls Tryd.prog 17 #[.pointer (some ⟨g, 0, none⟩), .pointer (some ⟨g2, 0, none⟩)] w (SomeB w) := by
  have HC := Lib.hid (equals_any g g2 ws ws2 w h h2 hne hs hs2)
  clear h h2 hs hs2
  go_enter Tryd.func17, Tryd.ntmps17
  go_wp2_with fail
  refine HC.out.mono ?_
  rintro e w1 ⟨r, n, rfl, rfl⟩
  go_wp2_with fail
  go_ret
  exact ⟨r, n, rfl, rfl⟩
theorem zzOr_any (base g g2 : Nat) (ws ws2 : List Nat) (w1 W0 : World) (h1 : BitO w1 base g ws) (hb1 : Below w1.heap.size w1 W0) (h2 : BitO W0 w1.heap.size g2 ws2) (hs : Sm ws) (hs2 : Sm ws2) :
    Calls Tryd.prog 18 #[.pointer (some ⟨g, 0, none⟩), .pointer (some ⟨g2, 0, none⟩)] W0 (OrPost base g ws ws2 W0) := by
  have HC := Lib.hid (or_any base g g2 ws ws2 w1 W0 h1 hb1 h2 hs hs2)
  clear h1 h2 hs hs2
  go_enter Tryd.func18, Tryd.ntmps18
  go_wp2_with fail
  refine HC.out.mono ?_
  rintro e w3 ⟨F, rfl, h⟩
  have HH := Lib.hid h
  clear h
  go_wp2_with fail
  go_end0
  exact ⟨F, rfl, HH.out⟩
/-- the numbers of both -/
def orB (bs bs2 : List Bool) (i : Nat) : Bool := bs.getD i false || bs2.getD i false
def ImplOr (bs bs2 : List Bool) (w : World) (e : Ending) (w' : World) : Prop := ∃ (F : List Nat) (r : Bool), e = .returned (.tuple #[.string (bts (textOf (bitsW F))), .bool r]) ∧ (∀ i, bitAt F i = orB bs bs2 i) ∧ Below w.heap.size w w'
set_option maxHeartbeats 1000000 in
theorem implOr_any (A A2 : Option Addr) (c c2 : Nat) (sts sts2 : List St) (bs bs2 : List Bool) (w : World) (h : StIn w A sts) (h2 : StIn w A2 sts2) (hr : refB z400 sts = some bs) (hr2 : refB z400 sts2 = some bs2) (hT : Tabs w) :
    Calls Tryd.prog 10 #[.slice A sts.length c, .slice A2 sts2.length c2] w (ImplOr bs bs2 w) := by
  have HC := Lib.hid (implBits_any A c sts bs w h hr)
  have HI2 := Lib.hid h2
  have HR2 := Lib.hid hr2
  have HT := Lib.hid hT
  clear h hr hT h2 hr2
  go_enter Tryd.func10, Tryd.ntmps10
  go_wp2_with fail
  refine HC.out.mono ?_
  rintro e w1 ⟨g, ws, rfl, ho, ha, hs, hb⟩
  have HO := Lib.hid ho
  have HA := Lib.hid ha
  have HS := Lib.hid hs.sm
  have HB := Lib.hid hb
  clear ho ha hs hb HC
  go_wp2_with fail
  refine (implBits_any A2 c2 sts2 bs2 w1 (HI2.out.ext HB.out) HR2.out).mono ?_
  rintro e w2 ⟨g2, ws2, rfl, ho, ha, hs, hb⟩
  have HO2 := Lib.hid ho
  have HA2 := Lib.hid ha
  have HS2 := Lib.hid hs.sm
  have HB2 := Lib.hid hb
  have hgne : g ≠ g2 := by
    obtain ⟨_, _, hB1, _⟩ := HO.out
    obtain ⟨_, _, _, hg, _⟩ := ho
    have := hB1.lt
    omega
  clear ho ha hs hb
  go_wp2_with fail
  refine (zzEquals_any g g2 ws ws2 w2 (HO.out.ext HB2.out).read HO2.out.read hgne HS.out HS2.out).mono ?_
  rintro e w3 ⟨r, n, rfl, rfl⟩
  have HB3 := Lib.hid (show Below w1.heap.size w1 (w2.drewN n) from HB2.out.trans ((below_drewN w2 n).mono HB2.out.size))
  have HO3 := Lib.hid (HO2.out.ext (below_drewN w2 n))
  clear HO2
  go_wp2_with fail
  refine (zzOr_any w.heap.size g g2 ws ws2 w1 (w2.drewN n) HO.out HB3.out HO3.out HS.out HS2.out).mono ?_
  rintro e w4 ⟨F, rfl, hF, hsm, ho, hb⟩
  have HF := Lib.hid hF
  have HSM := Lib.hid hsm
  have HR4 := Lib.hid ho.read
  have HB4 := Lib.hid (((HB.out.trans (HB3.out.mono HB.out.size))).trans hb)
  have HT4 := Lib.hid (HT.out.ext HB4.out)
  clear hF hsm ho hb
  go_wp2_with fail
  refine (string_any g F w4 HR4.out HSM.out HT4.out).mono ?_
  rintro e w5 ⟨rfl, hb5⟩
  have HB5 := Lib.hid (below_trans HB4.out hb5)
  clear hb5
  go_wp2_with fail
  go_returns
  refine ⟨F, r, rfl, fun i => ?_, HB5.out⟩
  unfold bitAt orB
  rw [HF.out, Nat.testBit_or, ← HA.out i, ← HA2.out i]
  rfl
theorem refB_adds (l : List Nat) : ∀ (bs bs' : List Bool), refB bs (adds l) = some bs' → (∀ n ∈ l, n < bs.length) → ∀ i, bs'.getD i false = (bs.getD i false || l.contains i) := by
  induction l with
  | nil => intro bs bs' h _ i; cases h; simp
  | cons n r ih =>
    intro bs bs' h hl i
    have hn := hl n (List.mem_cons_self ..)
    have ea : adds (n :: r) = ⟨0, (n : Int), 0⟩ :: adds r := by simp only [adds, List.map_cons]
    rw [ea] at h
    simp only [refB] at h
    cases hs : refS bs ⟨0, (n : Int), 0⟩ with
    | none => rw [hs] at h; cases h
    | some b1 =>
      rw [hs] at h
      simp only at h
      unfold refS at hs
      split at hs
      · simp only [Option.some.injEq] at hs
        have hb1 : b1 = bs.set n true := by rw [← hs]; simp
        subst hb1
        rw [ih _ bs' h (fun m hm => by rw [List.length_set]; exact hl m (List.mem_cons_of_mem _ hm)) i, getD_set_b _ _ _ _ hn]
        by_cases e : n = i
        · subst e; simp
        · rw [if_neg e]
          have e2 : (i == n) = false := by rw [beq_eq_false_iff_ne]; exact fun h => e h.symm
          rw [List.contains_cons, e2, Bool.false_or]
      · cases hs
theorem flat3_one (l : List St) : ∀ u ∈ flat3 l, u.oneCell' = true := by
  induction l with
  | nil => intro u hu; cases hu
  | cons a r ih =>
    intro u hu
    simp only [flat3, List.mem_append, List.mem_cons, List.not_mem_nil, or_false] at hu
    rcases hu with rfl | rfl | rfl | hu
    · rfl
    · rfl
    · rfl
    · exact ih u hu
theorem adds_append (l m : List Nat) : adds (l ++ m) = adds l ++ adds m := by simp [adds]
theorem adds_length (l : List Nat) : (adds l).length = l.length := by simp [adds]
theorem trues_of {bs : List Bool} {F : List Nat} (h : ∀ i, bitAt F i = bs.getD i false) : bitsW F = trues bs := Agree.bits h
set_option maxRecDepth 20000 in
set_option maxHeartbeats 4000000 in
theorem lawOr_any (A A' : Option Addr) (c c' : Nat) (sts sts' : List St) (w : World) (h : Reads w w.heap.size 3 A sts.length (flat3 sts)) (h' : Reads w w.heap.size 3 A' sts'.length (flat3 sts'))
    (hm : sts.length ≤ 9223372036854775807) (hm' : sts'.length ≤ 9223372036854775807) (hT : Tabs w) :
    Calls Tryd.prog 4 #[.slice A sts.length c, .slice A' sts'.length c'] w (Yes w) := by
  have H := Lib.hid h
  have H' := Lib.hid h'
  have HT := Lib.hid hT
  clear h h' hT
  by_cases h1 : sts.length ≤ 2147483647 ∧ sts'.length ≤ 2147483647
  · obtain ⟨h1, h1'⟩ := h1
    have HI : Hid (StIn w A sts) := Lib.hid ⟨H.out, h1⟩
    have HI' : Hid (StIn w A' sts') := Lib.hid ⟨H'.out, h1'⟩
    obtain ⟨i0, hi0, hz0, hz1, hz2⟩ := info_parts info38
    go_enter Tryd.func4, Tryd.ntmps4
    go_wp2_with fail
    refine (steps_any A c sts w H.out h1).mono ?_
    rintro e w1 ⟨A1, c1, rfl, ho1, hb1⟩
    have HO1 := Lib.hid (Reads.of_own ho1)
    have HB1 := Lib.hid hb1
    clear ho1 hb1
    go_wp2_with fail
    refine (specBits_any A1 c1 sts w1 HO1.out h1).mono ?_
    rintro e w2 ⟨A2, c2, L, ok, rfl, hl4, hr2, hok, hb2⟩
    have HR2 := Lib.hid hr2
    have HOK := Lib.hid hok
    have HB2 := Lib.hid (below_trans HB1.out hb2)
    clear hr2 hok hb2
    go_wp2_with fail
    refine (steps_any A' c' sts' w2 (HI'.out.ext HB2.out).1 h1').mono ?_
    rintro e w3 ⟨A3, c3, rfl, ho3, hb3⟩
    have HO3 := Lib.hid (Reads.of_own ho3)
    have HR3 := Lib.hid (HR2.out.ext hb3)
    have HB3 := Lib.hid (below_trans HB2.out hb3)
    clear ho3 hb3 HR2
    go_wp2_with fail
    refine (specBits_any A3 c3 sts' w3 HO3.out h1').mono ?_
    rintro e w4 ⟨A4, c4, L', ok', rfl, hl4', hr4, hok', hb4⟩
    have HR4 := Lib.hid hr4
    have HR3' := Lib.hid (HR3.out.ext hb4)
    have HOK' := Lib.hid hok'
    have HB4 := Lib.hid (below_trans HB3.out hb4)
    clear hr4 hok' hb4 HR3
    go_wp2_with fail
    refine (onlyAdds_any A2 c2 L w4 HR3'.out hl4).mono ?_
    rintro e w5 ⟨A5, c5, rfl, ho5, hb5⟩
    have HO5 := Lib.hid ho5
    have HR5 := Lib.hid (HR4.out.ext hb5)
    have HB5 := Lib.hid (below_trans HB4.out hb5)
    have hs5 := hb5.size
    have hb5' := Lib.hid hb5
    clear ho5 hb5 HR3' HR4
    go_wp2_with fail
    refine (onlyAdds_any A4 c4 L' w5 HR5.out hl4').mono ?_
    rintro e w6 ⟨A6, c6, rfl, ho6, hb6⟩
    have HO6 := Lib.hid (Reads.of_own ho6)
    have HO56 := Lib.hid (ownsRow_ext HO5.out hb6)
    have HB6 := Lib.hid (below_trans HB5.out hb6)
    have HB46 := Lib.hid (below_trans' hb5'.out hs5 hb6)
    have hs6 := hb6.size
    clear ho6 hb6 HO5
    go_wp2_with (first
      | (at_builtin
         go_must (refine wpList_append_bel rfl (.tmp 35) (.tmp 37) _ rfl w4 w4.heap.size 38 i0 _ 3 24 Tryd.underlying26 hi0 hz0 hz1 hz2 rfl (by omega) _ L.length (flat3 (adds L)) rfl HO56.out _ A6 L'.length c6 (flat3 (adds L')) rfl HO6.out ?_ (by omega) (by omega) HB46.out (by omega) ?_)
         rotate_left
         intro v7 w7 hown7 hb7 _ _))
    · have hl3 : (adds (L ++ L')).length = L.length + L'.length := by rw [adds_length, List.length_append]
      rw [← flat3_append, ← adds_append] at hown7
      obtain ⟨A7, c7, rfl, hr7⟩ := own_slice hown7
      have HR7 := Lib.hid hr7
      have HB7 := Lib.hid (HB4.out.trans (hb7.mono HB4.out.size))
      rw [← hl3] at HR7 ⊢
      clear hown7 hr7 hb7
      refine (specBits_any A7 c7 (adds (L ++ L')) w7 HR7.out (by omega)).mono ?_
      rintro e w8 ⟨A8, c8, L3, ok3, rfl, hl43, hr8, hok8, hb8⟩
      have HR8 := Lib.hid hr8
      have HOK8 := Lib.hid hok8
      have HB8 := Lib.hid (below_trans HB7.out hb8)
      clear hr8 hok8 hb8
      by_cases hcond : ok = true ∧ ok' = true ∧ L.length + L'.length ≤ 16 ∧ ok3 = true
      · obtain ⟨rfl, rfl, h16, rfl⟩ := hcond
        obtain ⟨bs, hrb, hbl, hL, _⟩ := HOK.out rfl
        obtain ⟨bs', hrb', hbl', hL', _⟩ := HOK'.out rfl
        obtain ⟨bs3, hrb3, hbl3, hL3, _⟩ := HOK8.out rfl
        have HRB := Lib.hid hrb
        have HRB' := Lib.hid hrb'
        have HT3 := Lib.hid (show ∀ F, (∀ i, bitAt F i = orB bs bs' i) → bitsW F = L3 from fun F hF => by
          rw [hL3]
          refine trues_of fun i => ?_
          have h2 := refB_adds (L ++ L') z400 bs3 hrb3 (fun n hn => by
            simp only [z400, List.length_replicate]
            rcases List.mem_append.1 hn with h | h
            · rw [hL] at h
              have := mem_trues.1 h
              rcases Nat.lt_or_ge n bs.length with h' | h'
              · omega
              · rw [List.getD_eq_getElem?_getD, List.getElem?_eq_none h'] at this; simp at this
            · rw [hL'] at h
              have := mem_trues.1 h
              rcases Nat.lt_or_ge n bs'.length with h' | h'
              · omega
              · rw [List.getD_eq_getElem?_getD, List.getElem?_eq_none h'] at this; simp at this) i
          have hz : z400.getD i false = false := by
            unfold z400
            rw [List.getD_eq_getElem?_getD]
            by_cases hi : i < 400
            · rw [List.getElem?_replicate_of_lt hi]; rfl
            · rw [List.getElem?_eq_none (by simp; omega)]; rfl
          rw [h2, hF i, hz, Bool.false_or, Bool.eq_iff_iff, List.contains_iff_mem, List.mem_append, hL, hL', mem_trues, mem_trues]
          unfold orB
          rw [Bool.or_eq_true])
        have HTL := Lib.hid (show ∀ n ∈ L3, n ≤ 1000000 by rw [hL3]; exact trues_le hbl3)
        clear hrb hrb' hrb3 hL hL' hL3
        have h16' : (L.length : Int) + (L'.length : Int) ≤ 16 := by omega
        go_wp2_with fail
        refine (implOr_any A A' c c' sts sts' bs bs' w8 (HI.out.ext HB8.out) (HI'.out.ext HB8.out) HRB.out HRB'.out (HT.out.ext HB8.out)).mono ?_
        rintro e w9 ⟨F, r, rfl, hF, hb9⟩
        rw [HT3.out F hF]
        have HB9 := Lib.hid (below_trans HB8.out hb9)
        have HR9 := Lib.hid (HR8.out.ext hb9)
        clear hF hb9
        have hl1 : L3.length ≤ 1000 := by omega
        go_wp2_with fail
        refine (text_any A8 c8 L3 w9 HR9.out hl1 HTL.out).mono ?_
        rintro e w10 ⟨rfl, hb10⟩
        have HB10 := Lib.hid (below_trans HB9.out hb10)
        clear hb10
        go_wp2_with fail
        go_ret
        exact ⟨by simp, HB10.out⟩
      · cases ok
        · go_wp2_with fail
          go_ret
          exact ⟨rfl, HB8.out⟩
        · cases ok'
          · go_wp2_with fail
            go_ret
            exact ⟨rfl, HB8.out⟩
          · by_cases h16 : L.length + L'.length ≤ 16
            · have h16' : ¬ (16 : Int) < (L.length : Int) + (L'.length : Int) := by omega
              cases ok3
              · go_wp2_with fail
                go_ret
                exact ⟨rfl, HB8.out⟩
              · exact absurd ⟨rfl, rfl, h16, rfl⟩ hcond
            · have h16' : (16 : Int) < (L.length : Int) + (L'.length : Int) := by omega
              go_wp2_with fail
              go_ret
              exact ⟨rfl, HB8.out⟩
    · intro u hu
      exact flat3_one _ u hu
  · go_enter Tryd.func4, Tryd.ntmps4
    by_cases h2 : sts.length ≤ 2147483647
    · have h3 : (2147483647 : Int) < (sts'.length : Int) := by omega
      go_wp2_with fail
      go_ret
      exact ⟨rfl, Below.refl _ _⟩
    · have h3 : (2147483647 : Int) < (sts.length : Int) := by omega
      go_wp2_with fail
      go_ret
      exact ⟨rfl, Below.refl _ _⟩
end Go.Proofs.YtckdcceglmlinaaDoor
