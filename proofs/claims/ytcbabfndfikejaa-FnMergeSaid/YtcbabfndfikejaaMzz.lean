/- The walks of ZZMerge and of impl.Merge, with and without a cache. Condition: the table reads, the two are nodes of it. -/
import Derived.Test.YtcbabfndfikejaaMo
namespace Go.Proofs.Ytcbabfndfikejaa
open Go.RowKit
set_option linter.unusedSimpArgs false

/-- What a merge of two choices of a table owes, with or without a cache. -/
def OwesG (a b : Nat) (wild cached : Bool) (x : Tr) (N : Nat) (W : World) (qs : List Addr) : Prop := ∀ (W' : World) (qa qb : Addr) (v : Value), Below W.heap.size W W' → (cached = false → v = .pointer none) → (cached = true → ∃ pa Φ B, W.heap.size ≤ B ∧ v = .pointer (some ⟨pa, 0, none⟩) ∧ PCM B (Qm wild qs) NoX pa 0 Φ W') →
  qs[a]? = some qa → qs[b]? = some qb → Calls Try.prog 61 #[.pointer (some qa), .pointer (some qb), .bool wild, v] W' (MPost x N W)
set_option maxHeartbeats 1000000 in
theorem zzMerge_any (A : Option Addr) (c a b : Nat) (wild cached : Bool) (ns : List Nd) (x : Tr) (N : Nat) (w : World) (ht : Tbl w w.heap.size A ns) (hg : GoodT ns) (ha : a < ns.length) (hb : b < ns.length) (hx : Wf x.1 x.2) (hs : x.2.srt) (hN : N ≤ 1000)
    (hm : ∀ (W : World) (qs : List Addr), Reps2 W NoX (built ns) qs → qs.length = ns.length → OwesG a b wild cached x N W qs) :
    Calls Try.prog 44 #[.slice A ns.length c, .int .i64 (a : Int), .int .i64 (b : Int), .bool wild, .bool cached] w (TabN N x.2 w) := by
  have HM := Lib.hid hm
  have HC := Lib.hid (zzBuild2_any A c ns w ht hg)
  have HX := Lib.hid hx
  have HSR := Lib.hid hs
  clear ht hm hx hs
  have hnl := hg.1
  go_enter Try.func44, Try.ntmps44
  go_wp2_with fail
  refine HC.out.mono ?_
  rintro e w1 ⟨A1, c1, qs, rfl, hown, hreps, hb1⟩
  have hql : qs.length = ns.length := by have := hown.1; simpa [ptrs] using this
  have hreps' : Reps2 w1 NoX (built ns) qs := ⟨fun i q hi => by
    obtain ⟨kf, h1, h2⟩ := hreps.1 i q hi
    exact ⟨kf, h1, h2.move (fun g cs e _ hx hg => ⟨hg, fun h => h⟩)⟩, fun q hq => (hreps.2 q hq).move (fun g cs e _ hx hg => ⟨hg, fun h => h⟩)⟩
  obtain ⟨qa, hqa⟩ : ∃ q, qs[a]? = some q := ⟨_, List.getElem?_eq_getElem (by omega)⟩
  obtain ⟨qb, hqb⟩ : ∃ q, qs[b]? = some q := ⟨_, List.getElem?_eq_getElem (by omega)⟩
  have hr := Reads.of_own hown
  obtain ⟨b0, off, u, rfl, _, hu, hca⟩ := hr.at1 ha
  obtain ⟨q, hq, rfl⟩ := ptrs_at hu
  rw [hqa] at hq; cases hq
  obtain ⟨b2, off2, u2, e2, _, hu2, hcb⟩ := hr.at1 hb
  cases e2
  obtain ⟨q, hq, rfl⟩ := ptrs_at hu2
  rw [hqb] at hq; cases hq
  have HMM := Lib.hid (HM.out w1 qs hreps' hql)
  have HQA := Lib.hid hqa
  have HQB := Lib.hid hqb
  have HB1 := Lib.hid hb1
  have ha' : (a : Int) < (ns.length : Int) := by omega
  have hb' : (b : Int) < (ns.length : Int) := by omega
  clear hown hreps hreps' hr hu hu2 hqa hqb hb1 HC
  cases cached with
  | false =>
    have HBQ := Lib.hid (Below.refl w1.heap.size w1)
    go_wp2_with fail
    refine wp_region_order (fun w' => Below w1.heap.size w1 w') [0, 1, 2, 3, 4, 5, 6, 7, 8, 9] [10, 11, 12] (by kernel_rfl) (by kernel_rfl) (below_drew' HBQ.out) ?_
    repeat
      apply TakesThen.cons rfl rfl
      · intro w' hw'
        have x0 := cell_bel hca hw'
        have x1 := cell_bel hcb hw'
        go_simp
        with_reducible rfl
      try simp only [Act.put, List.getElem_toArray, List.getElem_cons_succ, List.getElem_cons_zero, List.setIfInBounds_toArray, List.set_cons_zero, List.set_cons_succ]
    refine TakesThen.nil ?_
    refine Chain.step rfl rfl (fun K hK => ?_)
    go_simp
    refine (HMM.out w1.drew qa qb (.pointer none) (below_drew' HBQ.out) (fun _ => rfl) (fun h => by cases h) HQA.out HQB.out).mono ?_
    rintro e w2 ⟨p, S, rfl, hrp, hpS, hcl, hSl, hb2⟩
    have hb12 : Below w1.heap.size w1 w2 := hb2
    refine hK _ _ hb12 ?_
    clear hK
    try simp only [Act.put, List.getElem_toArray, List.getElem_cons_succ, List.getElem_cons_zero, List.setIfInBounds_toArray, List.set_cons_zero, List.set_cons_succ]
    have HZ := Lib.hid (zzTable_any S p x.1 x.2 w2 hrp HX.out HSR.out hpS hcl (by omega))
    have HB12 := Lib.hid (below_trans HB1.out hb12)
    have HB012 := Lib.hid hb12
    clear hrp hcl hb2 hb12
    refine Chain.step rfl rfl (fun K hK => ?_)
    go_simp
    refine HZ.out.mono ?_
    rintro e w3 ⟨A3, c3, ms, rfl, htb, hgd, h0, hle, htr, hb3⟩
    have HFIN := Lib.hid (show TabN N x.2 w (.returned (.slice A3 ms.length c3)) w3 from ⟨A3, c3, ms, rfl, htb, hgd, h0, by omega, htr, below_trans HB12.out hb3⟩)
    refine hK _ _ (below_trans HB012.out hb3) ?_
    clear hK htb hgd htr hb3
    try simp only [Act.put, List.getElem_toArray, List.getElem_cons_succ, List.getElem_cons_zero, List.setIfInBounds_toArray, List.set_cons_zero, List.set_cons_succ]
    refine Chain.last (by kernel_rfl) rfl rfl (fun K hK => ?_)
    go_simp
    refine hK _ _ ?_
    clear hK
    refine NoPanic.normal ?_
    go_wp2_with fail
    go_ret
    exact HFIN.out
  | true =>
    have HNP := Lib.hid (fun d st => newPC_any (Qm wild qs) NoX d st w1)
    go_wp2_with fail
    refine (HNP.out _ _).mono ?_
    rintro e wq ⟨pa, rfl, hpc, hbq⟩
    have HBQ := Lib.hid hbq
    have HV2 := Lib.hid (show ∃ pa' Φ B, w1.heap.size ≤ B ∧ (Value.pointer (some ⟨pa, 0, none⟩)) = .pointer (some ⟨pa', 0, none⟩) ∧ PCM B (Qm wild qs) NoX pa' 0 Φ wq.drew from ⟨pa, _, _, Nat.le_refl _, rfl, hpc.below Qm.move (below_drew' (Below.refl _ _))⟩)
    clear hpc hbq HNP
    go_wp2_with fail
    refine wp_region_order (fun w' => Below w1.heap.size w1 w') [0, 1, 2, 3, 4, 5, 6, 7, 8, 9] [10, 11, 12] (by kernel_rfl) (by kernel_rfl) (below_drew' HBQ.out) ?_
    repeat
      apply TakesThen.cons rfl rfl
      · intro w' hw'
        have x0 := cell_bel hca hw'
        have x1 := cell_bel hcb hw'
        go_simp
        with_reducible rfl
      try simp only [Act.put, List.getElem_toArray, List.getElem_cons_succ, List.getElem_cons_zero, List.setIfInBounds_toArray, List.set_cons_zero, List.set_cons_succ]
    refine TakesThen.nil ?_
    refine Chain.step rfl rfl (fun K hK => ?_)
    go_simp
    refine (HMM.out wq.drew qa qb (.pointer (some ⟨pa, 0, none⟩)) (below_drew' HBQ.out) (fun h => by cases h) (fun _ => HV2.out) HQA.out HQB.out).mono ?_
    rintro e w2 ⟨p, S, rfl, hrp, hpS, hcl, hSl, hb2⟩
    have hb12 : Below w1.heap.size w1 w2 := hb2
    refine hK _ _ hb12 ?_
    clear hK
    try simp only [Act.put, List.getElem_toArray, List.getElem_cons_succ, List.getElem_cons_zero, List.setIfInBounds_toArray, List.set_cons_zero, List.set_cons_succ]
    have HZ := Lib.hid (zzTable_any S p x.1 x.2 w2 hrp HX.out HSR.out hpS hcl (by omega))
    have HB12 := Lib.hid (below_trans HB1.out hb12)
    have HB012 := Lib.hid hb12
    clear hrp hcl hb2 hb12
    refine Chain.step rfl rfl (fun K hK => ?_)
    go_simp
    refine HZ.out.mono ?_
    rintro e w3 ⟨A3, c3, ms, rfl, htb, hgd, h0, hle, htr, hb3⟩
    have HFIN := Lib.hid (show TabN N x.2 w (.returned (.slice A3 ms.length c3)) w3 from ⟨A3, c3, ms, rfl, htb, hgd, h0, by omega, htr, below_trans HB12.out hb3⟩)
    refine hK _ _ (below_trans HB012.out hb3) ?_
    clear hK htb hgd htr hb3
    try simp only [Act.put, List.getElem_toArray, List.getElem_cons_succ, List.getElem_cons_zero, List.setIfInBounds_toArray, List.set_cons_zero, List.set_cons_succ]
    refine Chain.last (by kernel_rfl) rfl rfl (fun K hK => ?_)
    go_simp
    refine hK _ _ ?_
    clear hK
    refine NoPanic.normal ?_
    go_wp2_with fail
    go_ret
    exact HFIN.out
set_option maxHeartbeats 1000000 in
theorem implMerge_any (A : Option Addr) (c a b : Nat) (wild cached : Bool) (ns : List Nd) (x : Tr) (N : Nat) (w : World) (ht : Tbl w w.heap.size A ns) (hg : GoodT ns) (ha : a < ns.length) (hb : b < ns.length) (hx : Wf x.1 x.2) (hs : x.2.srt) (hN : N ≤ 1000)
    (hm : ∀ (W : World) (qs : List Addr), Reps2 W NoX (built ns) qs → qs.length = ns.length → OwesG a b wild cached x N W qs) :
    Calls Try.prog 31 #[.slice A ns.length c, .int .i64 (a : Int), .int .i64 (b : Int), .bool wild, .bool cached] w (TabN N x.2 w) := by
  have HM := Lib.hid hm
  have HT := Lib.hid ht
  have HX := Lib.hid hx
  have HSR := Lib.hid hs
  clear ht hm hx hs
  go_enter Try.func31, Try.ntmps31
  go_wp2_with fail
  refine (implNodes_any A c ns w HT.out hg).mono ?_
  rintro e w1 ⟨v, rfl, ho, hb1⟩
  obtain ⟨A1, c1, rfl, ht1⟩ := ho.tbl
  have HT1 := Lib.hid ht1
  have HB1 := Lib.hid hb1
  clear ho ht1 hb1
  go_wp2_with fail
  refine (zzMerge_any A1 c1 a b wild cached ns x N w1 HT1.out hg ha hb HX.out HSR.out hN HM.out).mono ?_
  rintro e w2 ⟨A2, c2, ms, rfl, ht2, hgd, h0, hle, htr, hb2⟩
  have HT2 := Lib.hid ht2
  have HB2 := Lib.hid (below_trans HB1.out hb2)
  have HGD := Lib.hid hgd
  have HTR := Lib.hid htr
  clear ht2 hgd htr hb2
  go_wp2_with fail
  refine (back_tab A2 c2 N ms w2 HT2.out HGD.out hN hle).mono ?_
  rintro e w3 ⟨A3, c3, rfl, ht3, hb3⟩
  have HFIN := Lib.hid (show TabN N x.2 w (.returned (.slice A3 ms.length c3)) w3 from ⟨A3, c3, ms, rfl, ht3, HGD.out, h0, hle, HTR.out, below_trans HB2.out hb3⟩)
  clear ht3 hb3
  go_wp2_with fail
  go_ret
  exact HFIN.out
end Go.Proofs.Ytcbabfndfikejaa
