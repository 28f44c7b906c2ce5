/- The walk of ZZCombineCommonParents. Condition: the table is good, the numbers are nodes of it. -/
import Derived.Test.YtcbabfndfikejaaCom
namespace Go.Proofs.Ytcbabfndfikejaa
open Go.RowKit
set_option linter.unusedSimpArgs false

theorem adr_take_snoc {l : List Kn} {j : Nat} {x : Kn} (h : l[j]? = some x) : ptrs (adr (l.take (j + 1))) = ptrs (adr (l.take j)) ++ [.pointer (some x.1)] := by
  rw [take_snoc' _ _ _ h]; simp [adr, ptrs]
def natInts (vn : List Nat) : List Int := List.map (fun v : Nat => (v : Int)) vn

set_option maxRecDepth 20000 in
set_option maxHeartbeats 4000000 in
theorem ZZCombine_any (A : Option Addr) (c : Nat) (ns : List Nd) (A' : Option Addr) (c' : Nat) (vn : List Nat) (w : World) (ht : Tbl w w.heap.size A ns) (hg : GoodT ns) (hv : Reads w w.heap.size 1 A' vn.length (ints (natInts vn))) (hin : ∀ v ∈ vn, v < ns.length) (h0 : 0 < vn.length) (hm : vn.length ≤ 10) :
    Calls Try.prog 40 #[.slice A ns.length c, .slice A' vn.length c'] w (fun e w' => ∃ Ao co, ∃ l : List Kn, e = .returned (.slice Ao vn.length co) ∧ Below w.heap.size w w' ∧ l.length = vn.length ∧ (∀ (j v : Nat), vn[j]? = some v → ∃ q : Addr, l[j]? = some ((q, tr ns v) : Kn)) ∧ Reads w' w'.heap.size 1 Ao vn.length (ints (l.map fun x => (fidx l x : Int)))) := by
  obtain ⟨i0, hi0, hz0, hz1, hz2⟩ := info_parts pc72_info
  obtain ⟨j0, hj0, hy0, hy1, hy2⟩ := info_parts int_info
  have HT := Lib.hid ht
  have HG := Lib.hid hg
  have HV := Lib.hid hv
  have HIN := Lib.hid hin
  have hnl := hg.1
  clear ht hg hv hin
  go_enter Try.func40, Try.ntmps40
  go_wp2_with fail
  refine (zzBuild_any A c ns w HT.out HG.out).mono ?_
  rintro e w1 ⟨A1, c1, qs, rfl, hown, hreps, hb1⟩
  have hql : qs.length = ns.length := by have := hown.1; simpa [ptrs] using this
  have HR1 := Lib.hid (Reads.of_own hown)
  have HQL := Lib.hid hql
  have HREP := Lib.hid (fun v (hv : v ∈ vn) => (show Rep w1 NoX (qs.getD v ⟨0, 0, none⟩) (tr ns v).1 (tr ns v).2 by
    obtain ⟨q, hq, hr⟩ := rep_at hreps hql (HIN.out v hv)
    rw [List.getD_eq_getElem?_getD, hq]; exact hr))
  have HB1 := Lib.hid hb1
  clear hown hreps hb1 hql
  generalize hl : knOf ns qs vn = l
  have HL := Lib.hid hl
  have hln : l.length = vn.length := by rw [← hl]; exact knOf_len ..
  have HLN := Lib.hid hln
  clear hl hln
  go_wp2_with fail
  go_loopw [18] (fun i wr => ∃ j : Nat, j ≤ vn.length ∧ i = .int .i64 j ∧ Hid (Gath w1 wr w1.heap.size l j)) (fun i _ => vn.length - (intOf i).toNat)
  case atStart => exact ⟨0, Nat.zero_le _, rfl, Lib.hid ⟨none, 0, heap_alloc_new _ _, World.ownsRow_nil _ _ _ _, below_alloc' (Below.refl _ _) _⟩⟩
  case round =>
    obtain ⟨j, hj, rfl, HGA⟩ := hrel
    obtain ⟨Al, cl, hgc, hgo, hgb⟩ := HGA.out
    have hsz : w1.heap.size < wr.heap.size := (Array.getElem?_eq_some_iff.1 hgc).1
    have hne6 : some w1.heap.size ≠ (Value.slice Al j cl).ownBlock := own_cells_ne hgo hgc (by decide)
    by_cases hlt : j < vn.length
    · have hvj := List.getElem?_eq_getElem hlt
      have hbv := below_trans HB1.out hgb
      obtain ⟨b, off, u, rfl, _, hu, hc⟩ := (HV.out.ext hbv).at1 hlt
      obtain ⟨x, hx, rfl⟩ := ints_at hu
      simp only [natInts, List.getElem?_map, hvj, Option.map_some, Option.some.injEq] at hx
      have hmem := List.getElem_mem hlt
      generalize vn[j] = v at *
      subst hx
      have hvn := HIN.out v hmem
      obtain ⟨b1, off1, u1, rfl, hb1l, hu1, hc1⟩ := (HR1.out).at1 hvn
      obtain ⟨q, hq, rfl⟩ := ptrs_at hu1
      have hc1' := cell_bel hc1 hgb
      have hlj : l[j]? = some (q, tr ns v) := by
        rw [← HL.out, knOf_at hvj, List.getD_eq_getElem?_getD, hq]; rfl
      have HSN := Lib.hid (adr_take_snoc hlj)
      have c6 : wr.cell? ⟨w1.heap.size, 0, none⟩ = some (.slice Al j cl) := cell_of hgc 0
      have hb1n : some b1 ≠ (Value.slice Al j cl).ownBlock := fun e => by have := (hgo.lt b1 e.symm).1; omega
      have HGC := Lib.hid hgc
      have HGO := Lib.hid hgo
      have HGB := Lib.hid hgb
      have HN1 := Lib.hid hb1n
      have HN6 := Lib.hid hne6
      clear hvj hu hmem hu1 hq hc1 hlj hgc hgo hgb hbv hb1n hne6 hb1l
      go_wp2_with fail
      refine wp_region_sch (fun w' => wr.grownBy w' (Value.slice Al j cl).ownBlock) (.take 0 <| .take 1 <| .take 2 <| .take 3 <| .take 4 <| .step 5 <| .step 6 <| .step 7 .done) (by kernel_rfl) (by kernel_rfl) (grown_of_bel (below_drew' (Below.refl _ _))) ?_
      repeat
        apply Along.take rfl rfl
        · intro w' hw'
          have x0 := hw'.cell c6 HN6.out
          have x1 := hw'.cell hc1' HN1.out
          go_simp
          with_reducible rfl
        try simp only [Act.put, List.getElem_toArray, List.getElem_cons_succ, List.getElem_cons_zero, List.setIfInBounds_toArray, List.set_cons_zero, List.set_cons_succ]
      refine Along.step rfl rfl (fun K hK => ?_)
      go_simp
      have hX := below_alloc' (below_drew' (Below.refl _ wr)) (Obj.cells #[Value.pointer (some q)] 72)
      refine hK _ _ (grown_of_bel hX) ?_
      clear hK
      try simp only [Act.put, List.getElem_toArray, List.getElem_cons_succ, List.getElem_cons_zero, List.setIfInBounds_toArray, List.set_cons_zero, List.set_cons_succ]
      refine Along.step rfl rfl (fun K hK => ?_)
      refine wp_append_any _ (.tmp 22) (.tmp 27) 73 rfl w1.heap.size 72 i0 _ 1 8 Try.underlying73 hi0 hz0 hz1 hz2 rfl (by omega) (.slice Al j cl) j (ptrs (adr (l.take j))) rfl (ownsRow_ext HGO.out hX) _ _ 1 1 _ rfl (reads_new (by simp) rfl) (by simp [Value.oneCell']) (by simp only [maxLen]; omega) (by omega) (Nat.le_trans (Nat.le_of_lt hsz) hX.size) ?_
      intro v3 w3 hown3 hgr hat
      obtain ⟨A3, c3, rfl, _⟩ := own_slice hown3
      have hgr' := grown_grown (grown_of_bel hX) hgr
      have h63 : w3.heap[w1.heap.size]? = some (.cells #[.slice Al j cl] 73 (0, 0)) := (hgr'.block _ hsz HN6.out).trans HGC.out
      have d0 : w3.cell? ⟨w1.heap.size, 0, none⟩ = some (.slice Al j cl) := cell_of h63 0
      have d1 : w3.frozen? ⟨w1.heap.size, 0, none⟩ = false := by simp [World.frozen?, h63]
      have HNEW := Lib.hid (show Gath w1 (w3.setCell ⟨w1.heap.size, 0, none⟩ (.slice A3 (j + 1) c3)) w1.heap.size l (j + 1) by
        have hset : w3.grownBy (w3.setCell ⟨w1.heap.size, 0, none⟩ (.slice A3 (j + 1) c3)) (some w1.heap.size) := ⟨rfl, rfl, rfl, by simp [World.setCell], fun j _ hj => Below.heap_setCell _ _ _ _ (fun e => hj (by rw [e]))⟩
        refine ⟨A3, c3, ?_, ?_, ?_⟩
        · rw [heap_setCell_same w3 w1.heap.size 0 _ _ _ h63]; rfl
        · rw [HSN.out]
          exact hown3.kept hset (.inr (fun e => own_cells_ne hown3 h63 (by decide) e.symm))
        · exact (HGB.out.grown hgr' (Nat.le_of_lt hsz) (fun x hx => (HGO.out.lt x hx).1)).setCell (Nat.le_refl _) _)
      refine hK _ _ hgr' ?_
      clear hK hown3 hat hgr h63 hgr'
      try simp only [Act.put, List.getElem_toArray, List.getElem_cons_succ, List.getElem_cons_zero, List.setIfInBounds_toArray, List.set_cons_zero, List.set_cons_succ]
      refine Along.last (by kernel_rfl) rfl rfl rfl (fun K hK => ?_)
      go_simp
      refine hK _ _ ?_
      clear hK
      refine Along.done ?_
      go_wp2_with fail
      go_roundw
      case rel => exact ⟨j + 1, by omega, by go_num, HNEW⟩
      case measure => simp [intOf]; omega
    · have hjn : j = vn.length := by omega
      subst hjn
      obtain ⟨rb, cap, hv3, hrb, hrbl⟩ := hgo.form h0
      obtain ⟨rfl, rfl⟩ : Al = some ⟨rb, 0, none⟩ ∧ cl = cap := by
        injection hv3 with a1 a2 a3; exact ⟨a1, a3⟩
      clear hv3
      have htk : l.take vn.length = l := by rw [← HLN.out, List.take_length]
      rw [htk] at hgo
      have hall : AllX wr (fun x => x = rb) l := by
        intro x hx
        rw [← HL.out] at hx
        obtain ⟨v, hv, rfl⟩ := List.mem_map.1 hx
        refine ⟨(HREP.out v hv).move (fun g cs e he hx hg => ⟨(hgb.block g (Array.getElem?_eq_some_iff.1 hg).1).trans hg, ?_⟩), tr_wf HG.out _ v (Nat.lt_succ_self _) (HIN.out v hv)⟩
        have := (Array.getElem?_eq_some_iff.1 hg).1
        omega
      have hcb := combine_any w1.heap.size w1.heap.size rb cl l wr (by rw [HLN.out]; exact hgc) (by rw [HLN.out]; exact hgo) hall (by rw [HLN.out]; omega)
      rw [HLN.out] at hcb
      have HALL := Lib.hid (show AllK wr l from hall.noX)
      have HCB := Lib.hid hcb
      have HGC := Lib.hid hgc
      have HGB := Lib.hid hgb
      clear hcb hall hgc hgb hgo htk
      go_wp2_with fail
      refine HCB.out.mono ?_
      rintro e w5 ⟨rfl, hown5, hg5⟩
      have hgr : some w1.heap.size ≠ some rb := hne6
      have hg55 : w5.heap[w1.heap.size]? = some (.cells #[.slice (some ⟨rb, 0, none⟩) vn.length cl] 73 (0, 0)) := (hg5.block _ hsz hgr).trans HGC.out
      have c65 : w5.cell? ⟨w1.heap.size, 0, none⟩ = some (.slice (some ⟨rb, 0, none⟩) vn.length cl) := cell_of hg55 0
      have hmk := fun W => run_make_rowN (P := Try.prog) 22 3 j0 _ Try.underlying22 hj0 hy0 .i64 .i64 vn.length vn.length (Nat.le_refl _) (by rw [hy2]; omega) (by omega) W
      rw [hy1, Nat.mul_one, show (Value.int .i64 0).cells = #[Value.int .i64 0] from rfl] at hmk
      have hb15 : Below w1.heap.size w1 w5 := HGB.out.grown hg5 (Nat.le_of_lt hsz) (fun x hx => by cases hx; exact hrb)
      have HB15 := Lib.hid hb15
      have HO5 := Lib.hid hown5
      have HG5 := Lib.hid hg5
      have hsz5 := hb15.size
      have hrb5 : rb < w5.heap.size := (hown5.lt rb rfl).2
      have hlt65 : w1.heap.size < w5.heap.size := (Array.getElem?_eq_some_iff.1 hg55).1
      clear hg55 hb15 hown5 hg5
      obtain ⟨w6, hw6⟩ : ∃ w6 : World, w6 = w5.alloc (.cells (madeCells #[Value.int .i64 0] vn.length) 3) := ⟨_, rfl⟩
      have hown6 : w6.ownsRow w5.heap.size 3 1 (.slice (some ⟨w5.heap.size, 0, none⟩) vn.length vn.length) vn.length (ints (outJ l 0)) := by
        have h1 : (w5.alloc (.cells (madeCells (Value.int .i64 0).cells (vn.length * 1)) 3)).ownsRow w5.heap.size 3 1 (.slice (some ⟨w5.heap.size, 0, none⟩) vn.length vn.length) vn.length (madeCells (Value.int .i64 0).cells (vn.length * 1)).toList :=
          World.ownsRow_lit w5 _ vn.length (Nat.le_refl _) (by simp only [maxLen]; omega) (by
            have := congrArg List.length (madeInts vn.length)
            simpa [ints] using this)
        rw [hw6]
        rw [madeInts] at h1
        rw [Nat.mul_one, show (Value.int .i64 0).cells = #[Value.int .i64 0] from rfl] at h1
        have e : outJ l 0 = List.replicate vn.length 0 := by simp [outJ, HLN.out]
        rw [e]; exact h1
      have hb6 : Below w5.heap.size w5 w6 := by rw [hw6]; exact below_alloc' (Below.refl _ _) _
      have HO6 := Lib.hid hown6
      have HB6 := Lib.hid hb6
      have HW6 := Lib.hid hw6
      clear hown6 hb6 hw6
      go_wp2_with fail
      rw [← HW6.out]
      have hlt6 : w5.heap.size < w6.heap.size := (HO6.out.lt w5.heap.size rfl).2
      have hgne : rb ≠ w5.heap.size := by omega
      clear hmk HW6
      have HB16 := Lib.hid (HB15.out.trans (HB6.out.mono hsz5))
      have HBW6 := Lib.hid (below_trans HB1.out (HB15.out.trans (HB6.out.mono hsz5)))
      have HR56 := Lib.hid (ownsRow_ext HO5.out HB6.out)
      have HREPL := Lib.hid (show ∀ x ∈ l, Rep w1 NoX x.1 x.2.1 x.2.2 from fun x hx => by
        rw [← HL.out] at hx
        obtain ⟨v, hv, rfl⟩ := List.mem_map.1 hx
        exact HREP.out v hv)
      go_loopw [36] (fun i wx => ∃ j : Nat, j ≤ vn.length ∧ i = .int .i64 j ∧ Hid (wx.ownsRow w5.heap.size 3 1 (.slice (some ⟨w5.heap.size, 0, none⟩) vn.length vn.length) vn.length (ints (outJ l j))) ∧ Hid (w6.grownBy wx (some w5.heap.size))) (fun i _ => vn.length - (intOf i).toNat)
      case atStart => exact ⟨0, Nat.zero_le _, rfl, HO6, Lib.hid (World.grownBy.refl _ _)⟩
      case round =>
        obtain ⟨j, hj, rfl, HOj, HGj⟩ := hrel
        by_cases hlt : j < vn.length
        · have hjl : j < l.length := by rw [HLN.out]; exact hlt
          have hlj := List.getElem?_eq_getElem hjl
          generalize l[j] = x at *
          obtain ⟨hfi, y, hy, hyx, hfst, hno⟩ := fidx_spec hlj
          have hcl : wr.cell? ⟨rb, j, none⟩ = some (.pointer (some y.1)) := by
            refine HGj.out.cell (?_ : w6.cell? ⟨rb, j, none⟩ = _) (fun e => hgne (Option.some.inj e))
            rw [HR56.out.cellAt _ (by omega)]
            simp [ptrs, hlj, hfst]
          have hot : wr.cell? ⟨w5.heap.size, j, none⟩ = (ints (outJ l j))[j]? := HOj.out.cellAt _ (by omega)
          obtain ⟨old, hold⟩ : ∃ o, (ints (outJ l j))[j]? = some o := ⟨_, List.getElem?_eq_getElem (by
            have := outJ_len l (j := j) (by rw [HLN.out]; omega)
            simp [ints, this, HLN.out]; exact hlt)⟩
          rw [hold] at hot
          have hof := HOj.out.frozenAt j
          have HSET := Lib.hid (HOj.out.stored j (.int .i64 (fidx l x : Int)))
          rw [ints_set, outJ_set hlj] at HSET
          generalize hfx : fidx l x = fx at *
          have HLJ := Lib.hid hlj
          have HY := Lib.hid hy
          have HYX := Lib.hid hyx
          have HNO := Lib.hid hno
          clear hlj hy hyx hno hfst hfx hold hjl
          go_wp2_with fail
          obtain ⟨wz, hwz⟩ : ∃ wz : World, wz = wr := ⟨_, rfl⟩
          rw [← hwz] at hcl hot hof HOj HGj HSET ⊢
          clear hwz
          have HB1z := Lib.hid (show Below w1.heap.size w1 wz from HB16.out.grown HGj.out (by have := HB6.out.size; omega) (fun x hx => by cases hx; omega))
          have HBWz := Lib.hid (below_trans HB1.out HB1z.out)
          go_loop [43] (fun i => ∃ m : Nat, m ≤ fx ∧ i = .int .i64 m) (fun i => vn.length - (intOf i).toNat)
          case atStart => exact ⟨0, Nat.zero_le _, rfl⟩
          case round =>
            obtain ⟨m, hm', rfl⟩ := hrel
            have hmn : m < vn.length := by omega
            have hvm := List.getElem?_eq_getElem hmn
            have hmem := List.getElem_mem hmn
            generalize vn[m] = v at *
            have hvn := HIN.out v hmem
            obtain ⟨b2, off2, u2, rfl, hb2l, hu2, hc2⟩ := (HV.out.ext HBWz.out).at1 hmn
            obtain ⟨z, hz, rfl⟩ := ints_at hu2
            simp only [natInts, List.getElem?_map, hvm, Option.map_some, Option.some.injEq] at hz
            subst hz
            obtain ⟨b3, off3, u3, rfl, hb3l, hu3, hc3⟩ := (HR1.out).at1 hvn
            obtain ⟨q, hq, rfl⟩ := ptrs_at hu3
            have hlm : l[m]? = some (q, tr ns v) := by
              rw [← HL.out, knOf_at hvm, List.getD_eq_getElem?_getD, hq]; rfl
            have hc2' := hc2
            have hc3' := cell_bel hc3 HB1z.out
            have hr1 := HREPL.out _ (List.mem_of_getElem? hlm)
            have hr2 := HREPL.out _ (List.mem_of_getElem? HY.out)
            simp only at hr1
            have hvx : (v : Int) < (ns.length : Int) := by omega
            by_cases hqe : q = y.1
            · have htr : tr ns v = y.2 := by
                rw [← hqe] at hr2
                obtain ⟨e1, e2⟩ := hr1.unique hr2
                exact Prod.ext e1 e2
              have hmf : m = fx := by
                rcases Nat.lt_or_ge m fx with h1 | h1
                · exact ((HNO.out m h1 _ hlm) (by simp only; rw [htr, HYX.out])).elim
                · omega
              have qe := eqlP_same wz y.1
              rw [hqe] at hc3'
              clear hr1 hr2 htr hlm hvm hmem hu2 hu3 hq hqe hc2 hc3
              subst hmf
              go_wp2_with fail
              go_roundw
              case rel => exact ⟨j + 1, by omega, by go_num, Lib.hid HSET.out.1, Lib.hid (grown_grown HGj.out HSET.out.2)⟩
              case measure => simp [intOf]; omega
            · have hmf : m + 1 ≤ fx := by
                rcases Nat.lt_or_ge m fx with h1 | h1
                · exact h1
                · have : m = fx := by omega
                  subst this
                  have := HY.out
                  rw [hlm] at this; cases this
                  exact (hqe rfl).elim
              obtain ⟨g1, _, _, _, _, e1, _, hg1⟩ := hr1.head
              obtain ⟨g2, _, _, _, _, e2, _, hg2⟩ := hr2.head
              have qe := eqlP_other wz (a := q) (b := y.1) hqe (by rw [e1]; exact (HB1z.out.block g1 (Array.getElem?_eq_some_iff.1 hg1).1).trans hg1) (by rw [e2]; exact (HB1z.out.block g2 (Array.getElem?_eq_some_iff.1 hg2).1).trans hg2)
              clear hr1 hr2 hlm hvm hmem hu2 hu3 hq hqe e1 e2 hg1 hg2 hc2 hc3
              go_wp2_with fail
              go_round
              case rel => exact ⟨m + 1, hmf, by go_num⟩
              case measure => simp [intOf]; omega
        · have hjn : j = vn.length := by omega
          have HOUT := Lib.hid (show outJ l j = l.map (fun x => (fidx l x : Int)) by rw [hjn, ← HLN.out]; simp [outJ])
          clear hjn
          have HFIN := Lib.hid (show Below w1.heap.size w1 wr from HB16.out.grown HGj.out (by have := HB6.out.size; omega) (fun x hx => by cases hx; omega))
          go_wp2_with fail
          go_ret
          refine ⟨_, _, l, rfl, below_trans HB1.out HFIN.out, HLN.out, fun j v hv => ⟨qs.getD v ⟨0, 0, none⟩, ?_⟩, ?_⟩
          · rw [← HL.out, knOf_at hv]
          · rw [← HOUT.out]; exact Reads.of_own HOj.out
end Go.Proofs.Ytcbabfndfikejaa
