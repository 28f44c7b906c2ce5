/- The laws FnEqual and FnHash: their walks. Condition: none but that the table reads. -/
import Derived.Test.YtcbabfndfikejaaAlk
import Derived.Test.YtcbabfndfikejaaFrame
namespace Go.Proofs.Ytcbabfndfikejaa
open Go.RowKit
set_option linter.unusedSimpArgs false

theorem GoodT.tab {ns : List Nd} (h : GoodT ns) : TabOk ns := by
  refine ⟨by have := h.1; omega, fun i nd hi => ?_⟩
  have hlt : i < ns.length := (List.getElem?_eq_some_iff.1 hi).1
  obtain ⟨h1, h2, h3⟩ := h.2 i nd hlt hi
  refine ⟨h1, by omega, fun j hj => ?_⟩
  obtain ⟨s, p, _, hp, _, _, hp0, hpi, _⟩ := h3 j hj
  exact ⟨p.toNat, by rw [hp, Int.toNat_of_nonneg hp0], by omega⟩
theorem mkTops_wf {bs : List (Nat × Tops)} : ∀ (ps ss : List Int), (∀ s ∈ ss, 0 ≤ s ∧ s ≤ 1000) → (∀ p ∈ ps, Wf (bs.getD p.toNat (0, .nil)).1 (bs.getD p.toNat (0, .nil)).2) → (mkTops bs ps ss).wf
  | [], _, _, _ => by simp [mkTops, Tops.wf]
  | _ :: _, [], _, _ => by simp [mkTops, Tops.wf]
  | p :: ps, s :: ss, h, h' => by
    simp only [mkTops, Tops.wf]
    have hp := h' p (List.mem_cons_self ..)
    exact ⟨h s (List.mem_cons_self ..), hp.1, hp.2, mkTops_wf ps ss (fun x hx => h x (List.mem_cons_of_mem _ hx)) (fun x hx => h' x (List.mem_cons_of_mem _ hx))⟩
theorem kindOk_of {n : Nat} {f : Tops} (hl : f.len = n) (hm : n ≤ 1000) : kindOk (kindOf n) f := by
  unfold kindOf
  by_cases h0 : n = 0
  · rw [if_pos h0]
    refine .inl ⟨rfl, ?_⟩
    cases f with
    | nil => rfl
    | cons => simp [Tops.len] at hl; omega
  · rw [if_neg h0]
    by_cases h1 : n = 1
    · rw [if_pos h1]; exact .inr (.inl ⟨rfl, by omega⟩)
    · rw [if_neg h1]; exact .inr (.inr ⟨rfl, by omega, by omega⟩)
theorem tr_wf {ns : List Nd} (hg : GoodT ns) : ∀ (n k : Nat), k < n → k < ns.length → Wf (tr ns k).1 (tr ns k).2 := by
  intro n
  induction n with
  | zero => intro k h; omega
  | succ n ih =>
    intro k hk hlt
    have hnd := List.getElem?_eq_getElem hlt
    generalize ns[k] = nd at hnd
    have hok := (hg.tab.2 k nd hnd)
    obtain ⟨h1, h2, h3⟩ := hg.2 k nd hlt hnd
    rw [tr_eq hg.tab hnd]
    refine ⟨kindOk_of (mkTops_len _ _ _ h1) (by omega), mkTops_wf _ _ ?_ ?_⟩
    · intro s hs
      obtain ⟨j, hj⟩ := List.getElem?_of_mem hs
      obtain ⟨s', p, e1, _, a1, a2, _⟩ := h3 j (List.getElem?_eq_some_iff.1 hj).1
      rw [hj] at e1; cases e1; exact ⟨a1, a2⟩
    · intro p hp
      obtain ⟨j, hj⟩ := List.getElem?_of_mem hp
      obtain ⟨q, hq, hqk⟩ := hok.2.2 j (by have := (List.getElem?_eq_some_iff.1 hj).1; omega)
      rw [hj] at hq; cases hq
      rw [Int.toNat_natCast]
      exact ih q (by omega) (by omega)
/-- the choice at an address, as the table has it -/
theorem rep_at {w : World} {X : Nat → Prop} {ns : List Nd} {qs : List Addr} {k : Nat} (h : Reps w X (built ns) qs) (hl : qs.length = ns.length) (hk : k < ns.length) : ∃ q, qs[k]? = some q ∧ Rep w NoX q (tr ns k).1 (tr ns k).2 := by
  have hq := List.getElem?_eq_getElem (show k < qs.length by omega)
  obtain ⟨kf, h1, h2⟩ := h k _ hq
  refine ⟨_, hq, ?_⟩
  have e : tr ns k = kf := by unfold tr; rw [List.getD_eq_getElem?_getD, h1]; rfl
  rw [e]
  exact h2.noX
theorem alk_eqB (ns ms : List Nd) (a b : Nat) : eqB (tr ns a).1 (tr ns a).2 (tr ms b).1 (tr ms b).2 = alk ns a ms b := by
  unfold eqB alk
  rw [Bool.eq_iff_iff]
  simp only [decide_eq_true_eq]
  exact ⟨fun h => Prod.ext h.1 h.2, fun h => by rw [h]; exact ⟨rfl, rfl⟩⟩

set_option maxHeartbeats 1000000 in
theorem ZZEqual_any (A : Option Addr) (c a b : Nat) (ns : List Nd) (w : World) (ht : Tbl w w.heap.size A ns) (hg : GoodT ns) (ha : a < ns.length) (hb : b < ns.length) :
    Calls Try.prog 38 #[.slice A ns.length c, .int .i64 a, .int .i64 b] w (BelPost (.bool (alk ns a ns b)) w) := by
  have HT := Lib.hid ht
  have HG := Lib.hid hg
  have hm := hg.1
  clear ht hg
  go_enter Try.func38, Try.ntmps38
  go_wp2_with fail
  refine (zzBuild_any A c ns w HT.out HG.out).mono ?_
  rintro e w1 ⟨A1, c1, qs, rfl, hown, hreps, hb1⟩
  have hql : qs.length = ns.length := by have := hown.1; simpa [ptrs] using this
  obtain ⟨q, hq, hrep⟩ := rep_at hreps hql ha
  obtain ⟨q', hq', hrep'⟩ := rep_at hreps hql hb
  obtain ⟨g, off, u, rfl, _, hu, hc⟩ := (Reads.of_own hown).at1 ha
  obtain ⟨g', off', u', he, _, hu', hc'⟩ := (Reads.of_own hown).at1 hb
  cases he
  obtain ⟨x, hx, rfl⟩ := ptrs_at hu
  obtain ⟨x', hx', rfl⟩ := ptrs_at hu'
  rw [hq] at hx; cases hx
  rw [hq'] at hx'; cases hx'
  have HB := Lib.hid hb1
  have HE := Lib.hid (fun w' (hd : Dr w1 w') => equals_any _ _ _ _ q q' w' (hrep.stay hd.stay) (hrep'.stay hd.stay) (tr_wf HG.out _ a (Nat.lt_succ_self _) ha) (tr_wf HG.out _ b (Nat.lt_succ_self _) hb))
  rw [alk_eqB] at HE
  clear hown hreps hql hq hq' hu hu' hrep hrep' hb1
  go_wp2_with fail
  go_quiet ((go_at_call 52; exact EqPost.quiet (HE.out _ ((Dr.refl _).drewN _))))
  go_wp2_with fail
  go_ret
  exact ⟨rfl, below_trans HB.out ((Dr.refl _).drewN _).below⟩
theorem implEqual_any (A : Option Addr) (c a b : Nat) (ns : List Nd) (w : World) (ht : Tbl w w.heap.size A ns) (hg : GoodT ns) (ha : a < ns.length) (hb : b < ns.length) :
    Calls Try.prog 21 #[.slice A ns.length c, .int .i64 a, .int .i64 b] w (BelPost (.bool (alk ns a ns b)) w) := by
  have HT := Lib.hid ht
  have HG := Lib.hid hg
  clear ht hg
  go_enter Try.func21, Try.ntmps21
  go_wp2_with fail
  refine (implNodes_any A c ns w HT.out HG.out).mono ?_
  rintro e w1 ⟨v, rfl, hown, hb1⟩
  obtain ⟨A1, c1, rfl, ht1⟩ := hown.tbl
  have HT1 := Lib.hid ht1
  have HB1 := Lib.hid hb1
  clear hown ht1 hb1
  go_wp2_with fail
  refine (ZZEqual_any A1 c1 a b ns w1 HT1.out HG.out ha hb).mono ?_
  rintro e w2 ⟨rfl, hb2⟩
  have HB := Lib.hid (below_trans HB1.out hb2)
  clear hb2
  go_wp2_with fail
  go_ret
  exact ⟨rfl, HB.out⟩
theorem ZZHash_any (A : Option Addr) (c a : Nat) (ns : List Nd) (w : World) (ht : Tbl w w.heap.size A ns) (hg : GoodT ns) (ha : a < ns.length) :
    Calls Try.prog 39 #[.slice A ns.length c, .int .i64 a] w (BelPost (.int .i64 (hsh (tr ns a).1 (tr ns a).2)) w) := by
  have HT := Lib.hid ht
  have HG := Lib.hid hg
  have hm := hg.1
  clear ht hg
  go_enter Try.func39, Try.ntmps39
  go_wp2_with fail
  refine (zzBuild_any A c ns w HT.out HG.out).mono ?_
  rintro e w1 ⟨A1, c1, qs, rfl, hown, hreps, hb1⟩
  have hql : qs.length = ns.length := by have := hown.1; simpa [ptrs] using this
  obtain ⟨q, hq, hrep⟩ := rep_at hreps hql ha
  obtain ⟨g, off, u, rfl, _, hu, hc⟩ := (Reads.of_own hown).at1 ha
  obtain ⟨x, hx, rfl⟩ := ptrs_at hu
  rw [hq] at hx; cases hx
  have HB := Lib.hid hb1
  have HR := Lib.hid hrep
  clear hown hreps hql hq hu hrep hb1
  go_wp2_with fail
  refine (Hash_any _ _ _ _ _ HR.out).mono ?_
  rintro e w2 ⟨rfl, rfl⟩
  go_wp2_with fail
  go_ret
  exact ⟨rfl, HB.out⟩
theorem implHash_any (A : Option Addr) (c a : Nat) (ns : List Nd) (w : World) (ht : Tbl w w.heap.size A ns) (hg : GoodT ns) (ha : a < ns.length) :
    Calls Try.prog 23 #[.slice A ns.length c, .int .i64 a] w (BelPost (.int .i64 (hsh (tr ns a).1 (tr ns a).2)) w) := by
  have HT := Lib.hid ht
  have HG := Lib.hid hg
  clear ht hg
  go_enter Try.func23, Try.ntmps23
  go_wp2_with fail
  refine (implNodes_any A c ns w HT.out HG.out).mono ?_
  rintro e w1 ⟨v, rfl, hown, hb1⟩
  obtain ⟨A1, c1, rfl, ht1⟩ := hown.tbl
  have HT1 := Lib.hid ht1
  have HB1 := Lib.hid hb1
  clear hown ht1 hb1
  go_wp2_with fail
  refine (ZZHash_any A1 c1 a ns w1 HT1.out HG.out ha).mono ?_
  rintro e w2 ⟨rfl, hb2⟩
  have HB := Lib.hid (below_trans HB1.out hb2)
  clear hb2
  go_wp2_with fail
  go_ret
  exact ⟨rfl, HB.out⟩

def Yes (w : World) (e : Ending) (w' : World) : Prop := e = .returned (.bool true) ∧ Below w.heap.size w w'
theorem Tbl.ext {w w' : World} {A : Option Addr} {ns : List Nd} (h : Tbl w w.heap.size A ns) (hb : Below w.heap.size w w') : Tbl w' w'.heap.size A ns := (h.below hb).more hb.size
theorem in_yes {a : Int} {n : Nat} (h : 0 ≤ a ∧ a < n) : (decide (0 ≤ a) && decide (a < (n : Int))) = true := by simp; omega
theorem in_no {a : Int} {n : Nat} (h : ¬ (0 ≤ a ∧ a < n)) : (decide (0 ≤ a) && decide (a < (n : Int))) = false := by rw [Bool.eq_false_iff]; simpa using h

set_option maxHeartbeats 2000000 in
theorem lawEqual_any (A : Option Addr) (c : Nat) (ns : List Nd) (a b : Int) (w : World) (ht : Tbl w w.heap.size A ns) (hm : ns.length ≤ 9223372036854775807) :
    Calls Try.prog 5 #[.slice A ns.length c, .int .i64 a, .int .i64 b] w (Yes w) := by
  have HT := Lib.hid ht
  clear ht
  go_enter Try.func5, Try.ntmps5
  go_wp2_with fail
  refine (zzFits1_any A c ns w HT.out hm).mono ?_
  rintro e w1 ⟨r, rfl, hr, hb1⟩
  cases r
  · go_wp2_with fail
    go_ret
    exact ⟨rfl, hb1⟩
  have hm' := hr rfl
  clear hr
  have HB1 := Lib.hid hb1
  clear hb1
  go_wp2_with fail
  refine (lawsNodes_tbl A c ns w1 (HT.out.ext HB1.out) hm').mono ?_
  rintro e w2 ⟨A2, c2, rfl, ht2, hb2⟩
  have HT2 := Lib.hid ht2
  have HB2 := Lib.hid (below_trans HB1.out hb2)
  clear ht2 hb2
  go_wp2_with fail
  refine (specGood_any A2 c2 ns w2 HT2.out hm').mono ?_
  rintro e w3 ⟨r, rfl, hr, hb3⟩
  have HB3 := Lib.hid (below_trans HB2.out hb3)
  have HT3 := Lib.hid (HT2.out.ext hb3)
  clear hb3
  cases r
  · go_wp2_with fail
    go_ret
    exact ⟨rfl, HB3.out⟩
  have HG := Lib.hid (hr rfl)
  clear hr
  go_wp2_with fail
  refine (specIn_any A2 ns.length c2 a w3).mono ?_
  rintro e w4 ⟨rfl, rfl⟩
  by_cases hin : 0 ≤ a ∧ a < ns.length
  · rw [in_yes hin]
    go_wp2_with fail
    refine (specIn_any A2 ns.length c2 b w3).mono ?_
    rintro e w4 ⟨rfl, rfl⟩
    by_cases hin' : 0 ≤ b ∧ b < ns.length
    · rw [in_yes hin']
      obtain ⟨ka, rfl⟩ := Int.eq_ofNat_of_zero_le hin.1
      obtain ⟨kb, rfl⟩ := Int.eq_ofNat_of_zero_le hin'.1
      have hka : ka < ns.length := by omega
      have hkb : kb < ns.length := by omega
      clear hin hin'
      go_wp2_with fail
      refine (implEqual_any A c ka kb ns w3 (HT.out.ext HB3.out) HG.out hka hkb).mono ?_
      rintro e w5 ⟨rfl, hb5⟩
      have HB5 := Lib.hid (below_trans HB3.out hb5)
      have HT5 := Lib.hid (HT3.out.ext hb5)
      clear hb5
      go_wp2_with fail
      refine (alike_any ka kb ns ns A2 A2 c2 c2 w5 HG.out.tab HG.out.tab HT5.out HT5.out hka hkb).mono ?_
      rintro e w6 ⟨rfl, hb6⟩
      have HB6 := Lib.hid (below_trans HB5.out hb6)
      clear hb6
      go_wp2_with fail
      go_ret
      exact ⟨by simp, HB6.out⟩
    · rw [in_no hin']
      go_wp2_with fail
      go_ret
      exact ⟨rfl, HB3.out⟩
  · rw [in_no hin]
    go_wp2_with fail
    go_ret
    exact ⟨rfl, HB3.out⟩

set_option maxHeartbeats 2000000 in
theorem lawHash_any (A : Option Addr) (c : Nat) (ns : List Nd) (a b : Int) (w : World) (ht : Tbl w w.heap.size A ns) (hm : ns.length ≤ 9223372036854775807) :
    Calls Try.prog 6 #[.slice A ns.length c, .int .i64 a, .int .i64 b] w (Yes w) := by
  have HT := Lib.hid ht
  clear ht
  go_enter Try.func6, Try.ntmps6
  go_wp2_with fail
  refine (zzFits1_any A c ns w HT.out hm).mono ?_
  rintro e w1 ⟨r, rfl, hr, hb1⟩
  cases r
  · go_wp2_with fail
    go_ret
    exact ⟨rfl, hb1⟩
  have hm' := hr rfl
  clear hr
  have HB1 := Lib.hid hb1
  clear hb1
  go_wp2_with fail
  refine (lawsNodes_tbl A c ns w1 (HT.out.ext HB1.out) hm').mono ?_
  rintro e w2 ⟨A2, c2, rfl, ht2, hb2⟩
  have HT2 := Lib.hid ht2
  have HB2 := Lib.hid (below_trans HB1.out hb2)
  clear ht2 hb2
  go_wp2_with fail
  refine (specGood_any A2 c2 ns w2 HT2.out hm').mono ?_
  rintro e w3 ⟨r, rfl, hr, hb3⟩
  have HB3 := Lib.hid (below_trans HB2.out hb3)
  have HT3 := Lib.hid (HT2.out.ext hb3)
  clear hb3
  cases r
  · go_wp2_with fail
    go_ret
    exact ⟨rfl, HB3.out⟩
  have HG := Lib.hid (hr rfl)
  clear hr
  go_wp2_with fail
  refine (specIn_any A2 ns.length c2 a w3).mono ?_
  rintro e w4 ⟨rfl, rfl⟩
  by_cases hin : 0 ≤ a ∧ a < ns.length
  · rw [in_yes hin]
    go_wp2_with fail
    refine (specIn_any A2 ns.length c2 b w3).mono ?_
    rintro e w4 ⟨rfl, rfl⟩
    by_cases hin' : 0 ≤ b ∧ b < ns.length
    · rw [in_yes hin']
      obtain ⟨ka, rfl⟩ := Int.eq_ofNat_of_zero_le hin.1
      obtain ⟨kb, rfl⟩ := Int.eq_ofNat_of_zero_le hin'.1
      have hka : ka < ns.length := by omega
      have hkb : kb < ns.length := by omega
      clear hin hin'
      go_wp2_with fail
      refine (implEqual_any A c ka ka ns w3 (HT.out.ext HB3.out) HG.out hka hka).mono ?_
      rintro e w5 ⟨rfl, hb5⟩
      rw [show alk ns ka ns ka = true from decide_eq_true rfl]
      have HB5 := Lib.hid (below_trans HB3.out hb5)
      have HT5 := Lib.hid (HT3.out.ext hb5)
      clear hb5
      go_wp2_with fail
      refine (alike_any ka kb ns ns A2 A2 c2 c2 w5 HG.out.tab HG.out.tab HT5.out HT5.out hka hkb).mono ?_
      rintro e w6 ⟨rfl, hb6⟩
      have HB6 := Lib.hid (below_trans HB5.out hb6)
      clear hb6
      cases hal : alk ns ka ns kb
      · clear hal
        go_wp2_with fail
        go_ret
        exact ⟨rfl, HB6.out⟩
      · have HX := Lib.hid (show tr ns ka = tr ns kb from of_decide_eq_true hal)
        clear hal
        go_wp2_with fail
        refine (implHash_any A c ka ns w6 (HT.out.ext HB6.out) HG.out hka).mono ?_
        rintro e w7 ⟨rfl, hb7⟩
        have HB7 := Lib.hid (below_trans HB6.out hb7)
        clear hb7
        go_wp2_with fail
        refine (implHash_any A c kb ns w7 (HT.out.ext HB7.out) HG.out hkb).mono ?_
        rintro e w8 ⟨rfl, hb8⟩
        have HB8 := Lib.hid (below_trans HB7.out hb8)
        clear hb8
        rw [HX.out]
        go_wp2_with fail
        go_ret
        exact ⟨by simp, HB8.out⟩
    · rw [in_no hin']
      go_wp2_with fail
      go_ret
      exact ⟨rfl, HB3.out⟩
  · rw [in_no hin]
    go_wp2_with fail
    go_ret
    exact ⟨rfl, HB3.out⟩
end Go.Proofs.Ytcbabfndfikejaa
