/- The walks of the laws FnAddSet and FnComplement. No condition but the bound on the length. -/
import Derived.Test.YtckdcceglmlinaaLawS
import Derived.Test.YtckdcceglmlinaaApart
import Derived.Test.YtckdcceglmlinaaTwo
namespace Go.Proofs.Ytckdcceglmlinaa
open Go.RowKit
set_option linter.unusedSimpArgs false

theorem addsF_ranges {bs bu : List Bool} {l : List Rg} (hl : bs.length = 62) (h : addsF bs l = some bu) : bu.length = 62 ∧ rangesF bu = addAll (rangesF bs) l := by
  induction l generalizing bs with
  | nil => cases h; exact ⟨hl, rfl⟩
  | cons r t ih =>
    simp only [addsF] at h
    split at h
    · rename_i h1
      have h2 := ih ((addF_length _ _ _).trans hl) h
      refine ⟨h2.1, ?_⟩
      rw [h2.2, ranges_add hl h1]; rfl
    · cases h
theorem addsF_prefix {bs bu : List Bool} {l m : List Rg} (h : addsF bs (l ++ m) = some bu) : ∃ bk, addsF bs l = some bk := by
  induction l generalizing bs with
  | nil => exact ⟨bs, rfl⟩
  | cons r t ih =>
    simp only [List.cons_append, addsF] at h ⊢
    split at h
    · rename_i h1; rw [if_pos h1]; exact ih h
    · cases h
theorem addsF_short {bs bu : List Bool} {l : List Rg} (hl : bs.length = 62) (h : addsF bs l = some bu) : ∀ k, k ≤ l.length → (addAll (rangesF bs) (l.take k)).length ≤ 100 := by
  intro k _
  have h1 : addsF bs (l.take k ++ l.drop k) = some bu := by rw [List.take_append_drop]; exact h
  obtain ⟨bk, h2⟩ := addsF_prefix h1
  obtain ⟨h3, h4⟩ := addsF_ranges hl h2
  rw [← h4]
  exact (ranges_sm h3).1
theorem takesF_ranges {bs bu : List Bool} {l : List Rg} (hl : bs.length = 62) (h : takesF bs l = some bu) : bu.length = 62 ∧ rangesF bu = rmAll (rangesF bs) l := by
  induction l generalizing bs with
  | nil => cases h; exact ⟨hl, rfl⟩
  | cons r t ih =>
    simp only [takesF] at h
    split at h
    · rename_i h1
      have h2 := ih ((takeF_length _ _ _ _).trans hl) h
      refine ⟨h2.1, ?_⟩
      rw [h2.2, rmR_of hl h1]; rfl
    · cases h
theorem takesF_split {bs bu : List Bool} {l m : List Rg} (h : takesF bs (l ++ m) = some bu) : ∃ bk, takesF bs l = some bk ∧ takesF bk m = some bu := by
  induction l generalizing bs with
  | nil => exact ⟨bs, rfl, h⟩
  | cons r t ih =>
    simp only [List.cons_append, takesF] at h ⊢
    split at h
    · rename_i h1; rw [if_pos h1]; exact ih h
    · cases h
theorem takesF_ok {bs bu : List Bool} {l : List Rg} (hl : bs.length = 62) (h : takesF bs l = some bu) : RmOk (rangesF bs) l := by
  intro k x hx
  have h1 : takesF bs (l.take k ++ l.drop k) = some bu := by rw [List.take_append_drop]; exact h
  obtain ⟨bk, h2, h3⟩ := takesF_split h1
  obtain ⟨h4, h5⟩ := takesF_ranges hl h2
  rw [drop_cons hx] at h3
  simp only [takesF] at h3
  split at h3
  · rename_i h6
    rw [← h5]
    exact ⟨ranges_sm h4, norm_lt (rangesF_norm bk).1, mayTake_of h6⟩
  · cases h3
theorem addOk_zeros {a b : Int} (ha : 0 ≤ a) (hab : a ≤ b) (hb : b ≤ 60) : addOk zeros a (b + 1) = true := by
  unfold addOk
  rw [zeros_ranges]
  simp [touchedL]
  omega
theorem zeros_add {a b : Int} (ha : 0 ≤ a) (hab : a ≤ b) (hb : b ≤ 60) : rangesF (addF zeros a (b + 1)) = [(a, b + 1)] := by
  rw [ranges_add zeros_len (addOk_zeros ha hab hb), zeros_ranges]; rfl

set_option maxHeartbeats 2000000 in
theorem lawAddSet_any (A A' : Option Addr) (c c' : Nat) (sts sts' : List St) (w : World) (h : Reads w w.heap.size 3 A sts.length (flat3 sts)) (h' : Reads w w.heap.size 3 A' sts'.length (flat3 sts')) (hm : sts.length ≤ 9223372036854775807) (hm' : sts'.length ≤ 9223372036854775807) :
    Calls Try.prog 8 #[.slice A sts.length c, .slice A' sts'.length c'] w (Yes w) := by
  have H := Lib.hid h
  have H' := Lib.hid h'
  clear h h'
  by_cases h1 : sts.length ≤ 2147483647
  · by_cases h2 : sts'.length ≤ 2147483647
    · have HI : Hid (StIn w A sts) := Lib.hid ⟨H.out, h1⟩
      have HI' : Hid (StIn w A' sts') := Lib.hid ⟨H'.out, h2⟩
      go_enter Try.func8, Try.ntmps8
      go_wp2_with fail
      refine (stepsIn_any A c sts w HI.out).mono ?_
      rintro e w1 ⟨A1, c1, rfl, hi1, hb1⟩
      have HI1 := Lib.hid hi1
      have HB1 := Lib.hid hb1
      clear hi1 hb1
      go_wp2_with fail
      refine (stepsIn_any A' c' sts' w1 (HI'.out.ext HB1.out)).mono ?_
      rintro e w3 ⟨A3, c3, rfl, hi3, hb3⟩
      have HI3 := Lib.hid hi3
      have HI13 := Lib.hid (HI1.out.ext hb3)
      have HB3 := Lib.hid (below_trans HB1.out hb3)
      clear hi3 hb3
      go_wp2_with fail
      refine (adds_any A1 A3 c1 c3 sts sts' w3 HI13.out HI3.out).mono ?_
      rintro e w4 ⟨v, ok, rfl, hb4, ⟨Av, nv, cv, rfl⟩, hok⟩
      have HB4 := Lib.hid (below_trans HB3.out hb4)
      have HOK := Lib.hid hok
      clear hb4 hok
      cases ok
      · go_wp2_with fail
        go_ret
        exact ⟨rfl, HB4.out⟩
      · obtain ⟨A4, c4, bs, bt, bu, hv, hrb, hrb', hadd, hr4⟩ := HOK.out rfl
        cases hv
        obtain ⟨hl, hr⟩ := addsF_ranges (refB_len zeros_len hrb) hadd
        have HSH := Lib.hid (addsF_short (refB_len zeros_len hrb) hadd)
        have hsm := (ranges_sm hl).1
        rw [hr] at hr4 hsm ⊢
        have HRB := Lib.hid hrb
        have HRB' := Lib.hid hrb'
        have HR4 := Lib.hid hr4
        clear hrb hrb' hadd hr4 hr hl HOK
        go_wp2_with fail
        refine (implAddSet_any A A' c c' sts sts' bs bt w4 (HI.out.ext HB4.out) HRB.out (HI'.out.ext HB4.out) HRB'.out HSH.out).mono ?_
        rintro e w5 ⟨A5, c5, rfl, hr5, hb5⟩
        have HB5 := Lib.hid (below_trans HB4.out hb5)
        have HR45 := Lib.hid (HR4.out.ext hb5)
        have HR5 := Lib.hid hr5
        clear hb5 hr5
        go_wp2_with fail
        refine (lawsRanges_any A5 c5 _ w5 HR5.out hsm).mono ?_
        rintro e w6 ⟨A6, c6, rfl, hown6, hb6⟩
        have HB6 := Lib.hid (below_trans HB5.out hb6)
        have HR46 := Lib.hid (HR45.out.ext hb6)
        have HR6 := Lib.hid (Reads.of_own hown6)
        clear hb6 hown6
        go_wp2_with fail
        refine (sameRanges_any A6 Av c6 cv _ _ w6 HR6.out HR46.out hsm).mono ?_
        rintro e w7 ⟨rfl, hb7⟩
        rw [eqS_same]
        have HB7 := Lib.hid (below_trans HB6.out hb7)
        clear hb7
        go_wp2_with fail
        refine (implSame_any A A c c sts sts bs bs w7 (HI.out.ext HB7.out) HRB.out (HI.out.ext HB7.out) HRB.out).mono ?_
        rintro e w8 ⟨rfl, hb8⟩
        rw [eqS_same]
        have HB8 := Lib.hid (below_trans HB7.out hb8)
        clear hb8
        go_wp2_with fail
        go_ret
        exact ⟨rfl, HB8.out⟩
    · go_enter Try.func8, Try.ntmps8
      go_wp2_with fail
      go_ret
      exact ⟨rfl, Below.refl _ _⟩
  · go_enter Try.func8, Try.ntmps8
    go_wp2_with fail
    go_ret
    exact ⟨rfl, Below.refl _ _⟩

set_option maxHeartbeats 2000000 in
theorem lawComplement_any (A : Option Addr) (c : Nat) (sts : List St) (a b : Int) (w : World) (h : Reads w w.heap.size 3 A sts.length (flat3 sts)) (hm : sts.length ≤ 9223372036854775807) :
    Calls Try.prog 6 #[.slice A sts.length c, .int .i64 a, .int .i64 b] w (Yes w) := by
  have H := Lib.hid h
  clear h
  by_cases h1 : sts.length ≤ 2147483647
  · have HI : Hid (StIn w A sts) := Lib.hid ⟨H.out, h1⟩
    go_enter Try.func6, Try.ntmps6
    go_wp2_with fail
    refine (stepsIn_any A c sts w HI.out).mono ?_
    rintro e w1 ⟨A1, c1, rfl, hi1, hb1⟩
    have HI1 := Lib.hid hi1
    have HB1 := Lib.hid hb1
    clear hi1 hb1
    go_wp2_with fail
    refine (beside_any A1 c1 sts a b w1 HI1.out).mono ?_
    rintro e w4 ⟨v, ok, rfl, hb4, ⟨Av, nv, cv, rfl⟩, hok⟩
    have HB4 := Lib.hid (below_trans HB1.out hb4)
    have HOK := Lib.hid hok
    clear hb4 hok
    cases ok
    · go_wp2_with fail
      go_ret
      exact ⟨rfl, HB4.out⟩
    · obtain ⟨A4, c4, bs, bu, hv, ha, hab, hb, hrb, htk, hr4⟩ := HOK.out rfl
      cases hv
      have hz := zeros_add ha hab hb
      have hzl : (addF zeros a (b + 1)).length = 62 := (addF_length _ _ _).trans zeros_len
      obtain ⟨hl, hr⟩ := takesF_ranges hzl htk
      have hrk := takesF_ok hzl htk
      rw [hz] at hr hrk
      have HRK := Lib.hid hrk
      have hsm := (ranges_sm hl).1
      rw [hr] at hr4 hsm ⊢
      have HRB := Lib.hid hrb
      have HR4 := Lib.hid hr4
      clear hrb htk hr4 hr hl HOK hz hzl hrk
      go_wp2_with fail
      refine (implComplement_any A c sts bs a b w4 (HI.out.ext HB4.out) HRB.out (by omega) HRK.out hsm).mono ?_
      rintro e w5 ⟨A5, c5, rfl, hr5, hb5⟩
      have HB5 := Lib.hid (below_trans HB4.out hb5)
      have HR45 := Lib.hid (HR4.out.ext hb5)
      have HR5 := Lib.hid hr5
      clear hb5 hr5
      go_wp2_with fail
      refine (lawsRanges_any A5 c5 _ w5 HR5.out hsm).mono ?_
      rintro e w6 ⟨A6, c6, rfl, hown6, hb6⟩
      have HB6 := Lib.hid (below_trans HB5.out hb6)
      have HR46 := Lib.hid (HR45.out.ext hb6)
      have HR6 := Lib.hid (Reads.of_own hown6)
      clear hb6 hown6
      go_wp2_with fail
      refine (sameRanges_any A6 Av c6 cv _ _ w6 HR6.out HR46.out hsm).mono ?_
      rintro e w7 ⟨rfl, hb7⟩
      rw [eqS_same]
      have HB7 := Lib.hid (below_trans HB6.out hb7)
      clear hb7
      go_wp2_with fail
      refine (implSame_any A A c c sts sts bs bs w7 (HI.out.ext HB7.out) HRB.out (HI.out.ext HB7.out) HRB.out).mono ?_
      rintro e w8 ⟨rfl, hb8⟩
      rw [eqS_same]
      have HB8 := Lib.hid (below_trans HB7.out hb8)
      clear hb8
      go_wp2_with fail
      go_ret
      exact ⟨rfl, HB8.out⟩
  · go_enter Try.func6, Try.ntmps6
    go_wp2_with fail
    go_ret
    exact ⟨rfl, Below.refl _ _⟩
end Go.Proofs.Ytckdcceglmlinaa
