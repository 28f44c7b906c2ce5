/- The walk of laws.two: the stacks of two choices together. Condition: the table reads and is not too long. -/
import Derived.Test.YtcbabfndfikejaaApa
import Derived.Test.YtcbabfndfikejaaFrame
namespace Go.Proofs.Ytcbabfndfikejaa
open Go.RowKit
set_option linter.unusedSimpArgs false

theorem Rows2.one {w : World} {us : List Value} {L : List (List Int)} (h : Rows2 w us L) : ∀ u ∈ us, u.oneCell' = true := fun u hu => by
  obtain ⟨j, hj⟩ := List.mem_iff_getElem?.1 hu
  obtain ⟨l, A, c, _, rfl, _⟩ := h.2 j u hj
  rfl
theorem Rows2.append {w : World} {us vs : List Value} {L M : List (List Int)} (h : Rows2 w us L) (h' : Rows2 w vs M) : Rows2 w (us ++ vs) (L ++ M) := by
  refine ⟨by simp [h.1, h'.1], fun j u hu => ?_⟩
  rcases Nat.lt_or_ge j us.length with hlt | hge
  · rw [List.getElem?_append_left hlt] at hu
    obtain ⟨l, A, c, h1, h2⟩ := h.2 j u hu
    exact ⟨l, A, c, by rw [List.getElem?_append_left (by rw [← h.1]; exact hlt)]; exact h1, h2⟩
  · rw [List.getElem?_append_right hge] at hu
    obtain ⟨l, A, c, h1, h2⟩ := h'.2 _ u hu
    exact ⟨l, A, c, by rw [List.getElem?_append_right (by rw [← h.1]; exact hge), ← h.1]; exact h1, h2⟩
/-- the stacks of two nodes -/
def both (ns : List Nd) (a b : Nat) : List (List Int) := stkOf (tr ns a).2 ++ stkOf (tr ns b).2
/-- What is stated of two choices. -/
def TwoOk (ns : List Nd) (a b : Int) (L : List (List Int)) : Prop := GoodT ns ∧ ∃ ka kb : Nat, a = ka ∧ b = kb ∧ ka < ns.length ∧ kb < ns.length ∧ L = both ns ka kb ∧ (both ns ka kb).length ≤ 120
def TwoPost (ns : List Nd) (a b : Int) (w : World) (e : Ending) (w' : World) : Prop := ∃ A c L ok, e = .returned (.tuple #[.slice A L.length c, .bool ok]) ∧ (ok = true → TwoOk ns a b L) ∧ Stks w' A L ∧ Below w.heap.size w w'
set_option maxHeartbeats 2000000 in
set_option maxRecDepth 20000 in
theorem two_any (A : Option Addr) (c : Nat) (ns : List Nd) (a b : Int) (w : World) (ht : Tbl w w.heap.size A ns) (hm : ns.length ≤ 2147483647) :
    Calls Try.prog 29 #[.slice A ns.length c, .int .i64 a, .int .i64 b] w (TwoPost ns a b w) := by
  have HT := Lib.hid ht
  clear ht
  obtain ⟨i0, hi0, hz0, hz1, hz2⟩ := info_parts info22
  go_enter Try.func29, Try.ntmps29
  go_wp2_with fail
  refine (lawsNodes_tbl A c ns w HT.out hm).mono ?_
  rintro e w2 ⟨A2, c2, rfl, ht2, hb2⟩
  have HT2 := Lib.hid ht2
  have HB2 := Lib.hid hb2
  clear ht2 hb2
  go_wp2_with fail
  refine (specGood_any A2 c2 ns w2 HT2.out hm).mono ?_
  rintro e w3 ⟨r, rfl, hr, hb3⟩
  have HB3 := Lib.hid (below_trans HB2.out hb3)
  have HT3 := Lib.hid (HT2.out.ext hb3)
  clear hb3
  have hfin : ∀ V, Below w.heap.size w V → TwoPost ns a b w (.returned (.tuple #[.slice none 0 0, .bool false])) V := fun V hb => ⟨none, 0, [], false, rfl, (fun h => by cases h), Stks.nil_, hb⟩
  cases r
  · go_wp2_with fail
    go_returns
    exact hfin _ HB3.out
  have HG := Lib.hid (hr rfl)
  clear hr
  go_wp2_with fail
  refine (specIn_any A2 ns.length c2 a w3).mono ?_
  rintro e w4 ⟨rfl, rfl⟩
  by_cases hin : 0 ≤ a ∧ a < ns.length
  · rw [in_yes hin]
    go_wp2_with fail
    refine (specIn_any A2 ns.length c2 b w3).mono ?_
    rintro e w4 ⟨rfl, rfl⟩
    by_cases hin' : 0 ≤ b ∧ b < ns.length
    · rw [in_yes hin']
      obtain ⟨ka, rfl⟩ := Int.eq_ofNat_of_zero_le hin.1
      obtain ⟨kb, rfl⟩ := Int.eq_ofNat_of_zero_le hin'.1
      have hka : ka < ns.length := by omega
      have hkb : kb < ns.length := by omega
      clear hin hin' hfin
      go_wp2_with fail
      refine (stacks_any ka ns A2 c2 w3 HG.out.tab HT3.out hka).mono ?_
      rintro e w5 ⟨v5, X, rfl, hX, hown5, hb5⟩
      have HB5 := Lib.hid (below_trans HB3.out hb5)
      have HT5 := Lib.hid (HT3.out.ext hb5)
      obtain ⟨A5, c5, rfl, hst5⟩ := hown5.stks
      have HX := Lib.hid hX
      have HST5 := Lib.hid hst5
      clear hX hown5 hb5 hst5
      go_wp2_with fail
      refine (stacks_any kb ns A2 c2 w5 HG.out.tab HT5.out hkb).mono ?_
      rintro e w6 ⟨v6, Y, rfl, hY, hown6, hb6⟩
      have HB6 := Lib.hid (below_trans HB5.out hb6)
      have HST56 := Lib.hid (HST5.out.ext hb6)
      obtain ⟨A6, c6, rfl, hst6⟩ := hown6.stks
      have HY := Lib.hid hY
      have HST6 := Lib.hid hst6
      clear hY hown6 hb6 hst6 HST5
      have HOK : Hid ((decide ((stkOf (tr ns ka).2).length ≤ 120) = true ∧ decide ((stkOf (tr ns kb).2).length ≤ 120) = true ∧ X.length + Y.length ≤ 120) → TwoOk ns ka kb (X ++ Y)) := Lib.hid (by
        rintro ⟨h1, h2, h3⟩
        have h1' := of_decide_eq_true h1
        have h2' := of_decide_eq_true h2
        have e1 := HX.out
        have e2 := HY.out
        rw [if_pos h1'] at e1
        rw [if_pos h2'] at e2
        refine ⟨HG.out, ka, kb, rfl, rfl, hka, hkb, by rw [e1, e2]; rfl, ?_⟩
        unfold both
        rw [List.length_append, ← e1, ← e2]
        exact h3)
      have hXl : X.length ≤ 120 := by
        rw [HX.out]; split
        · assumption
        · simp
      have hYl : Y.length ≤ 120 := by
        rw [HY.out]; split
        · assumption
        · simp
      generalize decide ((stkOf (tr ns ka).2).length ≤ 120) = q at *
      generalize decide ((stkOf (tr ns kb).2).length ≤ 120) = q' at *
      obtain ⟨us, hus, hrx⟩ := HST56.out
      obtain ⟨vs, hvs, hry⟩ := HST6.out
      have HUS := Lib.hid hus
      have HRX := Lib.hid hrx
      have HVS := Lib.hid hvs
      have HRY := Lib.hid hry
      clear hus hrx hvs hry HX HY
      go_wp2_with (first
        | (at_builtin
           (refine wpList_append_bel rfl (.tmp 42) (.tmp 43) _ rfl w6 w6.heap.size 22 i0 _ 1 24 Try.underlying42 hi0 hz0 hz1 hz2 rfl (by omega) _ 0 [] rfl (World.ownsRow_lit w6 #[] 0 (Nat.le_refl _) (by simp [maxLen]) rfl) _ A5 X.length c5 us rfl (HUS.out.ext ((Below.refl _ _).alloc (Nat.le_refl _) _)) HRX.out.one (by omega) (by omega) ((Below.refl _ _).alloc (Nat.le_refl _) _) (by simp) ?_)
           intro v7 w7 hown7 hb7 _ _)
        | (at_builtin
           (refine wpList_append_bel rfl (.tmp 44) (.tmp 45) _ rfl w6 w6.heap.size 22 i0 _ 1 24 Try.underlying42 hi0 hz0 hz1 hz2 rfl (by omega) _ (0 + X.length) ([] ++ us) rfl hown7 _ A6 Y.length c6 vs rfl (HVS.out.ext hb7) HRY.out.one (by omega) (by omega) hb7 hb7.size ?_)
           intro v8 w8 hown8 hb8 _ _))
      all_goals
        obtain ⟨A8, c8, rfl, hr8⟩ := own_slice hown8
        have hl8 : 0 + X.length + Y.length = (X ++ Y).length := by rw [List.length_append]; omega
        have FIN : ∀ ok : Bool, (ok = true → TwoOk ns ka kb (X ++ Y)) → TwoPost ns ka kb w (.returned (.tuple #[.slice A8 (0 + X.length + Y.length) c8, .bool ok])) w8 := fun ok h => by
          refine ⟨A8, c8, X ++ Y, ok, by rw [hl8], h, ⟨us ++ vs, ?_, (HRX.out.append HRY.out).stay (Stay.of_below hb8)⟩, below_trans HB6.out hb8⟩
          rw [hl8, List.nil_append] at hr8
          exact hr8
        go_returns
        refine FIN _ (fun h => HOK.out ?_)
        first
          | (exact ⟨by assumption, by assumption, by simp at h; omega⟩)
          | (exfalso; simp at h; done)
    · rw [in_no hin']
      go_wp2_with fail
      go_returns
      exact hfin _ HB3.out
  · rw [in_no hin]
    go_wp2_with fail
    go_returns
    exact hfin _ HB3.out
end Go.Proofs.Ytcbabfndfikejaa
