/-
  THE ROW OF THE LAW FnEmptyPath: the package tells whether the empty stack is among those of a choice. No condition.
  The frame follows the guide's proof-skeleton.mjs.
-/
import Derived.Test.YtcbabfndfikejaaRows
import Derived.WalkKit
import Derived.ProofKit
import Derived.OpenShut
import Derived.ShutString
import Derived.ChangeOld
import Derived.Below
import Derived.Test.YtcbabfndfikejaaEmp
import Derived.Test.YtcbabfndfikejaaFrame
namespace Go.Proofs.Ytcbabfndfikejaa.fnEmptyPath
open Go.ChangeShapes Go.WideShapes Go.ChangeAt Go.RowKit
set_option linter.unusedVariables false
set_option linter.unusedSimpArgs false

theorem own : ownKnob Try.prog.godebug = none := by kernel_rfl
theorem laidOut : laidOutB Try.prog = true := by kernel_rfl

def Yes (w : World) (e : Ending) (w' : World) : Prop := e = .returned (.bool true) ∧ Below w.heap.size w w'

set_option maxHeartbeats 1000000 in
theorem law_any (A : Option Addr) (c : Nat) (ns : List Nd) (a : Int) (w : World) (ht : Tbl w w.heap.size A ns) (hm : ns.length ≤ 9223372036854775807) :
    Calls Try.prog 4 #[.slice A ns.length c, .int .i64 a] w (Yes w) := by
  have HT := Lib.hid ht
  clear ht
  go_enter Try.func4, Try.ntmps4
  go_wp2_with fail
  refine (zzFits1_any A c ns w HT.out hm).mono ?_
  rintro e w1 ⟨r, rfl, hr, hb1⟩
  cases r
  · go_wp2_with fail
    go_ret
    exact ⟨rfl, hb1⟩
  have hm' := hr rfl
  clear hr
  have HB1 := Lib.hid hb1
  clear hb1
  go_wp2_with fail
  refine (lawsNodes_tbl A c ns w1 ((HT.out.below HB1.out).more HB1.out.size) hm').mono ?_
  rintro e w2 ⟨A2, c2, rfl, ht2, hb2⟩
  have HT2 := Lib.hid ht2
  have HB2 := Lib.hid (below_trans HB1.out hb2)
  clear ht2 hb2
  go_wp2_with fail
  refine (specGood_any A2 c2 ns w2 HT2.out hm').mono ?_
  rintro e w3 ⟨r, rfl, hr, hb3⟩
  have HB3 := Lib.hid (below_trans HB2.out hb3)
  have HT3 := Lib.hid ((HT2.out.below hb3).more hb3.size)
  clear hb3
  cases r
  · go_wp2_with fail
    go_ret
    exact ⟨rfl, HB3.out⟩
  have hg := Lib.hid (hr rfl)
  clear hr
  go_wp2_with fail
  refine (specIn_any A2 ns.length c2 a w3).mono ?_
  rintro e w4 ⟨rfl, rfl⟩
  by_cases hin : 0 ≤ a ∧ a < ns.length
  · obtain ⟨k, rfl⟩ := Int.eq_ofNat_of_zero_le hin.1
    have hk : k < ns.length := by omega
    have e1 : (decide (0 ≤ (k : Int)) && decide ((k : Int) < (ns.length : Int))) = true := by simp; omega
    rw [e1]
    have hnk := List.getElem?_eq_getElem hk
    obtain ⟨b, off, Ap, cp, As, cs, rfl, hbb, cu, cv, rp, rs⟩ := HT3.out.at_ hnk
    generalize ns[k] = nd at *
    have HNK := Lib.hid hnk
    have HTA := Lib.hid ((HT.out.below HB3.out).more HB3.out.size)
    clear hnk hin e1 rp rs
    have hs0 : ((nd.ss.length : Int) == 0) = emptyB nd := by unfold emptyB; rw [Bool.eq_iff_iff]; simp
    go_wp2_with fail
    obtain ⟨W0, hW0⟩ : ∃ W0, W0 = w3.alloc (Obj.cells #[Value.slice Ap nd.ps.length cp, Value.slice As nd.ss.length cs] 32) := ⟨_, rfl⟩
    have hbW : Below w3.heap.size w3 W0 := by rw [hW0]; exact (Below.refl _ _).alloc (Nat.le_refl _) _
    have hbsW : w3.heap.size < W0.heap.size := by rw [hW0]; simp
    have n1 : W0.cell? ⟨w3.heap.size, 1, none⟩ = some (.slice As nd.ss.length cs) := by rw [hW0]; simp [World.cell?_alloc_new]
    have HW := Lib.hid hbW
    rw [← hW0]
    clear hW0 hbW
    refine wp_region_order (fun w' => Below W0.heap.size W0 w') [0, 1, 3, 4, 5, 6] [2, 7, 8] (by kernel_rfl) (by kernel_rfl) (below_drew' (Below.refl _ _)) ?_
    repeat
      apply TakesThen.cons rfl rfl
      · intro w' hw'
        have e1 := (hw'.cell (p := ⟨w3.heap.size, 1, none⟩) hbsW).trans n1
        go_simp
        with_reducible rfl
      try simp only [Act.put, List.setIfInBounds_toArray, List.set_cons_zero, List.set_cons_succ]
    refine TakesThen.nil ?_
    refine Chain.step rfl rfl (fun K hK => ?_)
    go_simp
    refine (implHasEmptyPath_any A c k ns nd W0.drew ((HTA.out.below (below_drew' HW.out)).more (below_drew' HW.out).size) hg.out HNK.out).mono ?_
    rintro e w' ⟨rfl, hb4⟩
    have HB4 := Lib.hid (below_trans HB3.out (below_trans (below_drew' HW.out) hb4))
    have HX4 := Lib.hid (below_trans (below_drew' (Below.refl W0.heap.size W0)) hb4)
    refine hK _ _ HX4.out ?_
    clear hK hb4
    refine Chain.step rfl rfl (fun K hK => ?_)
    try simp only [Act.put, List.setIfInBounds_toArray, List.set_cons_zero, List.set_cons_succ]
    go_simp
    refine hK _ _ HX4.out ?_
    clear hK
    refine Chain.last (by kernel_rfl) rfl rfl (fun K hK => ?_)
    go_simp
    refine hK _ _ ?_
    clear hK
    refine NoPanic.normal ?_
    go_wp2_with fail
    go_ret
    exact ⟨rfl, HB4.out⟩
  · have e1 : (decide (0 ≤ a) && decide (a < (ns.length : Int))) = false := by
      rw [Bool.eq_false_iff]; simpa using hin
    rw [e1]
    go_wp2_with fail
    go_ret
    exact ⟨rfl, HB3.out⟩

/-! ### THE ROW's STEP -/
set_option maxRecDepth 100000 in
theorem lifted (os : Os) (started : os.Started) (H : Type) (enc : TypeId × Value → H) :
    ReturnsInHanded {} Try.checked os 4 .any (Rows.fnEmptyPathSpec.pre6 enc Try.prog Try.f4 Rows.fnEmptyPathRow.domain false) (Rows.fnEmptyPathSpec.post enc Try.prog Try.f4 false true false false) := by
  refine returnsInHanded_of_change (C := Try.checked) own started (by kernel_rfl) Try.func4
    (ChangeSpec.witness6 (enc := enc) (C := Try.checked) false ⟨#[], #[.slice none 0 0, .int .i64 0], []⟩ 8 (by kernel_rfl) (by kernel_rfl) (by kernel_rfl) (by kernel_rfl)) ?_
  intro W base args ds gs before hval0 hW hcnd _
  have hval : ∀ (j : Nat) t v, Try.f4.params[j]? = some t → args[j]? = some v → Value.okWide Try.prog W .any base t v := hval0
  have hW' := hW
  obtain ⟨p, q, hA0, hV, rfl, hfz, hnd⟩ := hW
  have hA : DataW.TrodAll enc Try.prog W 0 (fun _ => true) true Try.f4.params.toList args.toList ds p := hA0
  rw [Try.params4] at hA hval
  obtain ⟨v0, vs0, d0, ds0, p0, q0, hargs, rfl, rfl, h0, r0⟩ := trodAll_cons hA
  obtain ⟨v1, vs1, d1, ds1, p1, q1, rfl, rfl, rfl, h1, r1⟩ := trodAll_cons r0
  obtain ⟨rfl, rfl, rfl⟩ := trodAll_nil r1
  obtain rfl : args = #[v0, v1] := by cases args; simp_all
  obtain ⟨rfl, rfl⟩ := trodVars_none hV
  have k0 := h0
  have lt0 : ∀ x ∈ p0, x.block < W.heap.size := by obtain ⟨m, hm⟩ := k0; exact DataW.trod_lt m _ _ _ hm
  obtain ⟨A, l, c, rfl⟩ := okWide_slice Try.underlying25 (hval 0 25 v0 rfl rfl)
  obtain ⟨A', c', ns, hv0, htbl, hlen⟩ := tbl_of_arg h0 ⟨_, _, _, rfl⟩
  cases hv0
  obtain ⟨a1, rfl, rfl, rfl, w1⟩ := open_int Try.underlying3 (hval 1 3 v1 rfl rfl) h1
  clear hA0 hval0
  refine (law_any A c ns a1 W htbl (by unfold maxLen at hlen; omega)).mono fun e W' ⟨he, bel⟩ => ?_
  subst he
  exact ⟨_, rfl, _, _, _, [], _, [], hW', trodAll_mk1 (shut_bool Try.underlying4 _), (trodAll_cons_mk (Below.trod laidOut (by kernel_rfl) (of_decide_eq_true (by kernel_rfl)) k0 bel lt0) (trodAll_cons_mk (shut_int Try.underlying3 w1) trodAll_mk0)), rfl, bel.frame _, fun h => by cases h⟩

theorem over : Rows.fnEmptyPathRow.holds Try.pinned (OpenSpec.ofChange Rows.fnEmptyPathSpec) :=
  OpenClaim.holds_of_wide 4 Try.f4 rfl rfl rfl rfl rfl rfl rfl ⟨rfl, rfl, rfl, rfl, rfl⟩ rfl rfl rfl rfl rfl (by kernel_rfl) Try.func4 (by kernel_rfl)
    (of_decide_eq_true (by kernel_rfl)) (by unfold Func.isWrapper; first | (rw [if_pos (by decide +kernel)]; kernel_rfl) | (rw [if_neg (by decide +kernel)]; exact ⟨rfl, rfl⟩))
    (fun os started H enc _ => lifted os started H enc)

/-- ████ THE STATEMENT ████ -/
theorem proved : Rows.FnEmptyPathSaid := over
#print axioms proved
end Go.Proofs.Ytcbabfndfikejaa.fnEmptyPath
