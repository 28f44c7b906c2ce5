/- The walk of the law FnLength. No condition but the bound on the length. -/
import Derived.Test.YtckdcceglmlinaaLawS
import Derived.Test.YtckdcceglmlinaaDrawM
namespace Go.Proofs.Ytckdcceglmlinaa
open Go.RowKit
set_option linter.unusedSimpArgs false

set_option maxHeartbeats 2000000 in
theorem lawLength_any (A : Option Addr) (c : Nat) (sts : List St) (w : World) (h : Reads w w.heap.size 3 A sts.length (flat3 sts)) (hm : sts.length ≤ 9223372036854775807) :
    Calls Try.prog 5 #[.slice A sts.length c] w (Yes w) := by
  have H := Lib.hid h
  clear h
  by_cases h1 : sts.length ≤ 2147483647
  · have HI : Hid (StIn w A sts) := Lib.hid ⟨H.out, h1⟩
    go_enter Try.func5, Try.ntmps5
    go_wp2_with fail
    refine (stepsIn_any A c sts w HI.out).mono ?_
    rintro e w1 ⟨A1, c1, rfl, hi1, hb1⟩
    have HI1 := Lib.hid hi1
    have HB1 := Lib.hid hb1
    clear hi1 hb1
    go_wp2_with fail
    refine (spec_any A1 c1 sts w1 HI1.out).mono ?_
    rintro e w2 ⟨A2, c2, bs, ok, rfl, hsm, hok, hr2, hb2⟩
    have HSM := Lib.hid hsm
    have HOK := Lib.hid hok
    have HR2 := Lib.hid hr2
    have HB2 := Lib.hid (below_trans HB1.out hb2)
    have hl4 := hsm.1
    clear hsm hok hr2 hb2
    cases ok
    · go_wp2_with fail
      go_ret
      exact ⟨rfl, HB2.out⟩
    · have HRB := Lib.hid (HOK.out rfl)
      generalize hL : rangesF bs = L at *
      have HL := Lib.hid hL
      clear hL
      by_cases h0 : L.length = 0
      · have hn : ((L.length : Int) == 0) = true := by rw [beq_iff_eq]; omega
        have hn2 : (L.length : Int) = 0 := by omega
        clear h0
        go_wp2_with fail
        refine wp_region_mixed (fun w' => Below w2.heap.size w2 w') [(true, 0), (true, 2), (false, 1), (false, 3), (true, 4), (true, 5), (true, 6), (true, 7), (true, 8), (true, 9), (true, 10), (true, 12), (true, 13), (true, 14), (true, 15), (false, 11), (true, 16), (true, 17), (true, 18), (false, 19)] (by kernel_rfl) (by kernel_rfl) (below_drew' (Below.refl _ _)) ?_
        repeat
          apply Mixed.take rfl
          · go_simp; done
          · intro w' hw'
            go_simp
            with_reducible rfl
          try simp only [Act.put, List.getElem_toArray, List.getElem_cons_succ, List.getElem_cons_zero, List.setIfInBounds_toArray, List.set_cons_zero, List.set_cons_succ]
        refine Mixed.step rfl rfl (fun K hK => ?_)
        go_simp
        refine (implLength_any A c sts bs w2.drew (HI.out.ext (below_drew' HB2.out)) HRB.out).mono ?_
        rintro e w3 ⟨rfl, hb3⟩
        have HB3 := Lib.hid (below_trans (below_drew' (Below.refl w2.heap.size w2)) hb3)
        refine hK _ _ HB3.out ?_
        clear hK hb3
        try simp only [Act.put, List.getElem_toArray, List.getElem_cons_succ, List.getElem_cons_zero, List.setIfInBounds_toArray, List.set_cons_zero, List.set_cons_succ]
        refine Mixed.step rfl rfl (fun K hK => ?_)
        go_simp
        refine (count_any A2 c2 L w3 (HR2.out.ext HB3.out) HSM.out).mono ?_
        rintro e w4 ⟨rfl, hb4⟩
        have HB4 := Lib.hid (below_trans HB3.out hb4)
        refine hK _ _ HB4.out ?_
        clear hK hb4
        rw [HL.out]
        try simp only [Act.put, List.getElem_toArray, List.getElem_cons_succ, List.getElem_cons_zero, List.setIfInBounds_toArray, List.set_cons_zero, List.set_cons_succ]
        repeat
          apply Mixed.take rfl
          · go_simp; done
          · intro w' hw'
            go_simp
            with_reducible rfl
          try simp only [Act.put, List.getElem_toArray, List.getElem_cons_succ, List.getElem_cons_zero, List.setIfInBounds_toArray, List.set_cons_zero, List.set_cons_succ]
        refine Mixed.pass rfl ?_ ?_
        · go_simp; done
        try simp only [Act.put, List.getElem_toArray, List.getElem_cons_succ, List.getElem_cons_zero, List.setIfInBounds_toArray, List.set_cons_zero, List.set_cons_succ]
        refine Mixed.pass rfl ?_ ?_
        · go_simp; done
        try simp only [Act.put, List.getElem_toArray, List.getElem_cons_succ, List.getElem_cons_zero, List.setIfInBounds_toArray, List.set_cons_zero, List.set_cons_succ]
        refine Mixed.pass rfl ?_ ?_
        · go_simp; done
        try simp only [Act.put, List.getElem_toArray, List.getElem_cons_succ, List.getElem_cons_zero, List.setIfInBounds_toArray, List.set_cons_zero, List.set_cons_succ]
        refine Mixed.pass rfl ?_ ?_
        · go_simp; done
        try simp only [Act.put, List.getElem_toArray, List.getElem_cons_succ, List.getElem_cons_zero, List.setIfInBounds_toArray, List.set_cons_zero, List.set_cons_succ]
        refine Mixed.pass rfl ?_ ?_
        · go_simp; done
        try simp only [Act.put, List.getElem_toArray, List.getElem_cons_succ, List.getElem_cons_zero, List.setIfInBounds_toArray, List.set_cons_zero, List.set_cons_succ]
        refine Mixed.skip rfl ?_ HB4.out ?_
        · go_simp; done
        try simp only [Act.put, List.getElem_toArray, List.getElem_cons_succ, List.getElem_cons_zero, List.setIfInBounds_toArray, List.set_cons_zero, List.set_cons_succ]
        refine Mixed.pass rfl ?_ ?_
        · go_simp; done
        try simp only [Act.put, List.getElem_toArray, List.getElem_cons_succ, List.getElem_cons_zero, List.setIfInBounds_toArray, List.set_cons_zero, List.set_cons_succ]
        repeat
          apply Mixed.take rfl
          · go_simp; done
          · intro w' hw'
            go_simp
            with_reducible rfl
          try simp only [Act.put, List.getElem_toArray, List.getElem_cons_succ, List.getElem_cons_zero, List.setIfInBounds_toArray, List.set_cons_zero, List.set_cons_succ]
        refine Mixed.last rfl rfl rfl (fun K hK => ?_)
        go_simp
        refine hK _ _ ?_
        clear hK
        refine Mixed.nil ?_
        go_wp2_with fail
        go_ret
        exact ⟨by simp, below_trans HB2.out HB4.out⟩
      · have hn : ((L.length : Int) == 0) = false := by rw [beq_eq_false_iff_ne]; omega
        have hn0 : 0 < L.length := by omega
        have hn2 : ¬ (L.length : Int) = 0 := by omega
        have hkr := List.getElem?_eq_getElem hn0
        generalize L[0] = r at *
        obtain ⟨b, off, hA2, _, ca, cb⟩ := HR2.out.rg (k := 0) hkr
        cases hA2
        have HF := Lib.hid (show firstS L = r.1 by cases L with
          | nil => simp at hkr
          | cons x t => simp at hkr; subst hkr; rfl)
        have ca' : w2.cell? ⟨b, off, none⟩ = some (.int .i64 r.1) := by simpa using ca
        clear ca cb hkr h0
        go_wp2_with fail
        refine wp_region_mixed (fun w' => Below w2.heap.size w2 w') [(true, 0), (true, 2), (false, 1), (false, 3), (true, 4), (true, 5), (true, 6), (true, 7), (true, 8), (true, 9), (true, 10), (true, 12), (true, 13), (true, 14), (true, 15), (false, 11), (true, 16), (true, 17), (true, 18), (false, 19)] (by kernel_rfl) (by kernel_rfl) (below_drew' (Below.refl _ _)) ?_
        repeat
          apply Mixed.take rfl
          · go_simp; done
          · intro w' hw'
            have x0 := cell_bel ca' hw'
            go_simp
            with_reducible rfl
          try simp only [Act.put, List.getElem_toArray, List.getElem_cons_succ, List.getElem_cons_zero, List.setIfInBounds_toArray, List.set_cons_zero, List.set_cons_succ]
        refine Mixed.step rfl rfl (fun K hK => ?_)
        go_simp
        refine (implLength_any A c sts bs w2.drew (HI.out.ext (below_drew' HB2.out)) HRB.out).mono ?_
        rintro e w3 ⟨rfl, hb3⟩
        have HB3 := Lib.hid (below_trans (below_drew' (Below.refl w2.heap.size w2)) hb3)
        refine hK _ _ HB3.out ?_
        clear hK hb3
        try simp only [Act.put, List.getElem_toArray, List.getElem_cons_succ, List.getElem_cons_zero, List.setIfInBounds_toArray, List.set_cons_zero, List.set_cons_succ]
        refine Mixed.step rfl rfl (fun K hK => ?_)
        go_simp
        refine (count_any (some ⟨b, off, none⟩) c2 L w3 (HR2.out.ext HB3.out) HSM.out).mono ?_
        rintro e w4 ⟨rfl, hb4⟩
        have HB4 := Lib.hid (below_trans HB3.out hb4)
        refine hK _ _ HB4.out ?_
        clear hK hb4
        rw [HL.out]
        try simp only [Act.put, List.getElem_toArray, List.getElem_cons_succ, List.getElem_cons_zero, List.setIfInBounds_toArray, List.set_cons_zero, List.set_cons_succ]
        repeat
          apply Mixed.take rfl
          · go_simp; done
          · intro w' hw'
            have x0 := cell_bel ca' hw'
            go_simp
            with_reducible rfl
          try simp only [Act.put, List.getElem_toArray, List.getElem_cons_succ, List.getElem_cons_zero, List.setIfInBounds_toArray, List.set_cons_zero, List.set_cons_succ]
        refine Mixed.step rfl ?_ (fun K hK => ?_)
        · go_simp; done
        go_simp
        refine (implFirst_any A c sts bs w4 (HI.out.ext (below_trans HB2.out HB4.out)) HRB.out).mono ?_
        rintro e w5 ⟨rfl, hb5⟩
        have HB5 := Lib.hid (below_trans HB4.out hb5)
        refine hK _ _ HB5.out ?_
        clear hK hb5
        rw [HL.out, HF.out]
        try simp only [Act.put, List.getElem_toArray, List.getElem_cons_succ, List.getElem_cons_zero, List.setIfInBounds_toArray, List.set_cons_zero, List.set_cons_succ]
        repeat
          apply Mixed.take rfl
          · go_simp; done
          · intro w' hw'
            go_simp
            with_reducible rfl
          try simp only [Act.put, List.getElem_toArray, List.getElem_cons_succ, List.getElem_cons_zero, List.setIfInBounds_toArray, List.set_cons_zero, List.set_cons_succ]
        refine Mixed.last rfl rfl rfl (fun K hK => ?_)
        go_simp
        refine hK _ _ ?_
        clear hK
        refine Mixed.nil ?_
        go_wp2_with fail
        go_ret
        exact ⟨by simp, below_trans HB2.out HB5.out⟩
  · go_enter Try.func5, Try.ntmps5
    go_wp2_with fail
    go_ret
    exact ⟨rfl, Below.refl _ _⟩
end Go.Proofs.Ytckdcceglmlinaa
