/- In one: The walk of zzBuild, which also tells the addresses below: the choices of a table lie in memory. Condition: the table is good. The walk of laws.stacks: the stacks of the last choice of a table. Condition: the table is good, has some nodes, and at most 200. The walk of impl.back: a copy of the package's table. Condition: the table reads, and is small. -/
import Derived.Test.YtcbabfndfikejaaZ9
import Derived.Test.YtcbabfndfikejaaZ3
import Derived.Test.YtcbabfndfikejaaZ8
import Derived.Test.YtcbabfndfikejaaZ0
namespace Go.Proofs.Ytcbabfndfikejaa
open Go.RowKit
set_option linter.unusedSimpArgs false
def Reps2 (w : World) (X : Nat → Prop) (bs : List (Nat × Tops)) (qs : List Addr) : Prop := Reps w X bs qs ∧ ∀ q ∈ qs, KidIn w X q qs
theorem Reps2.stay {w w' : World} {X : Nat → Prop} {bs : List (Nat × Tops)} {qs : List Addr} (h : Reps2 w X bs qs) (hs : Stay w w') : Reps2 w' X bs qs := ⟨h.1.stay hs, fun q hq => (h.2 q hq).stay hs⟩
/-- What has been built of the first k nodes. -/
def BInv2 (ns : List Nd) (g3 : Nat) (w wr : World) (k : Nat) : Prop :=
  ∃ A c qs, wr.heap[g3]? = some (.cells #[.slice A k c] 73 (0, 0)) ∧ wr.ownsRow w.heap.size 72 1 (.slice A k c) k (ptrs qs) ∧
    Reps2 wr (Own (.slice A k c)) (built (ns.take k)) qs ∧ Below w.heap.size w wr
theorem NewArrayK_n (X : Nat → Prop) (A A' : Option Addr) (c c' n n' : Nat) (f : Tops) (ss : List Int) (qs : List Addr) (w : World) (hn : f.len = n) (hn' : f.len = n') (hs : f.sts = ss) (hX : OldX X w) (hp : Row w X 72 A n (ptrs qs)) (hq : Row w X 3 A' n' (ints ss)) (hsub : Subs w X f qs) (hm : n ≤ 1000) :
    Calls Try.prog 66 #[.slice A n c, .slice A' n' c'] w (NewPostK X 2 f qs w) := by
  subst hn; subst hs; subst hn'
  exact NewArrayK_any X A A' c c' f qs w hX hp hq hsub hm
theorem BInv2.step {ns : List Nd} {nd : Nd} {g3 : Nat} {w W2 w3 : World} {Av : Option Addr} {k cv : Nat} {qs : List Addr} {p : Addr} {v' : Value}
    (hg3 : w.heap.size ≤ g3) (hk : (ns.take k).length = k) (hkn : ns.take (k + 1) = ns.take k ++ [nd])
    (h3 : W2.heap[g3]? = some (.cells #[.slice Av k cv] 73 (0, 0))) (hown : W2.ownsRow w.heap.size 72 1 (.slice Av k cv) k (ptrs qs)) (hreps : Reps2 W2 (Own (.slice Av k cv)) (built (ns.take k)) qs)
    (hrep : Rep W2 (Own (.slice Av k cv)) p (build1 (built (ns.take k)) nd).1 (build1 (built (ns.take k)) nd).2) (hkid : KidIn W2 (Own (.slice Av k cv)) p qs)
    (hown3 : w3.ownsRow w.heap.size 72 1 v' (k + 1) (ptrs qs ++ [.pointer (some p)])) (hb3 : Below w.heap.size w w3) (hgr : W2.grownBy w3 (Value.slice Av k cv).ownBlock)
    (hat : v'.ownBlock = (Value.slice Av k cv).ownBlock ∨ v'.ownBlock = some W2.heap.size) : BInv2 ns g3 w (w3.setCell ⟨g3, 0, none⟩ v') (k + 1) := by
  have hlt3 : g3 < W2.heap.size := (Array.getElem?_eq_some_iff.1 h3).1
  have hne3 : some g3 ≠ (Value.slice Av k cv).ownBlock := by
    intro he
    rcases hown.2 with ⟨h0, _⟩ | ⟨g, cap, cur, hv, _, hg, _⟩
    · rw [h0] at he; simp [Value.ownBlock] at he
    · rw [hv] at he
      have : g3 = g := by simpa [Value.ownBlock] using he
      subst this
      rw [h3] at hg; injection hg with hg; injection hg with _ ht; cases ht
  have h33 : w3.heap[g3]? = some (.cells #[.slice Av k cv] 73 (0, 0)) := (hgr.block g3 hlt3 hne3).trans h3
  obtain ⟨A', c', rfl, _⟩ := own_slice hown3
  have hne3' : (Value.slice A' (k + 1) c').ownBlock ≠ some g3 := by
    rcases hat with e | e
    · rw [e]; exact fun h => hne3 h.symm
    · rw [e]; intro h; injection h with h; omega
  have hset : w3.grownBy (w3.setCell ⟨g3, 0, none⟩ (.slice A' (k + 1) c')) (some g3) := ⟨rfl, rfl, rfl, by simp [World.setCell], fun j _ hj => Below.heap_setCell _ _ _ _ (fun e => hj (by rw [e]))⟩
  have hmove : Move (Own (.slice Av k cv)) (Own (.slice A' (k + 1) c')) W2 (w3.setCell ⟨g3, 0, none⟩ (.slice A' (k + 1) c')) := by
    intro g cs e he hx hg
    have hgl : g < W2.heap.size := (Array.getElem?_eq_some_iff.1 hg).1
    have hgn : g ≠ g3 := by
      rintro rfl
      rw [h3] at hg; injection hg with hg; injection hg with _ ht
      subst ht
      rcases he with h | h | h <;> cases h
    refine ⟨?_, ?_⟩
    · rw [Below.heap_setCell _ _ _ _ hgn, hgr.block g hgl (fun h => hx h.symm)]; exact hg
    · intro hx'
      rcases hat with e1 | e1
      · exact hx (e1.symm.trans hx')
      · have := e1.symm.trans hx'
        injection this with this
        omega
  refine ⟨A', c', qs ++ [p], ?_, ?_, ?_, ?_⟩
  · rw [heap_setCell_same w3 g3 0 _ _ _ h33]; rfl
  · have := hown3.kept hset (.inr hne3')
    simpa [ptrs] using this
  · refine ⟨?_, fun q hq => ?_⟩
    · intro i q hi
      have hl : qs.length = k := by have := hown.1; simpa [ptrs] using this
      have hbl : (built (ns.take k)).length = k := by rw [built_length, hk]
      rw [hkn, built_snoc]
      rcases Nat.lt_or_ge i k with hik | hik
      · rw [List.getElem?_append_left (by omega)] at hi
        obtain ⟨kf, h1, h2⟩ := hreps.1 i q hi
        exact ⟨kf, by rw [List.getElem?_append_left (by omega)]; exact h1, h2.move hmove⟩
      · have hik' : i = k := by
          rcases Nat.lt_or_ge k i with h | h
          · rw [List.getElem?_eq_none (by simp; omega)] at hi; cases hi
          · omega
        subst hik'
        rw [List.getElem?_append_right (by omega)] at hi
        simp [hl] at hi
        subst hi
        exact ⟨_, by rw [List.getElem?_append_right (by omega)]; simp [hbl], hrep.move hmove⟩
    · rcases List.mem_append.1 hq with h | h
      · exact ((hreps.2 q h).move hmove).more
      · simp at h; subst h
        exact (hkid.move hmove).more
  · exact hb3.setCell hg3 _
set_option maxHeartbeats 8000000 in
theorem zzBuild2_any (A : Option Addr) (c : Nat) (ns : List Nd) (w : World) (ht : Tbl w w.heap.size A ns) (hg : GoodT ns) :
    Calls Try.prog 50 #[.slice A ns.length c] w (fun e w' => ∃ A' c' qs, e = .returned (.slice A' ns.length c') ∧ w'.ownsRow w.heap.size 72 1 (.slice A' ns.length c') ns.length (ptrs qs) ∧
      Reps2 w' (Own (.slice A' ns.length c')) (built ns) qs ∧ Below w.heap.size w w') := by
  obtain ⟨i0, hi0, hz0, hz1, hz2⟩ := info_parts pc_info
  obtain ⟨j0, hj0, hy0, hy1, hy2⟩ := info_parts int_info
  have hm := hg.1
  have HG := Lib.hid hg
  have HT := Lib.hid ht
  clear hg ht
  go_enter Try.func50, Try.ntmps50
  go_wp2_with fail
  go_loopw [13] (fun i wr => ∃ k : Nat, k ≤ ns.length ∧ i = .int .i64 k ∧ BInv2 ns w.heap.size w wr k) (fun i _ => ns.length - (intOf i).toNat)
  case atStart => exact ⟨0, Nat.zero_le _, rfl, none, 0, [], heap_alloc_new w _, World.ownsRow_nil _ _ _ _, ⟨fun i q hi => by simp at hi, by simp⟩, (Below.refl _ _).alloc (Nat.le_refl _) _⟩
  case round =>
    obtain ⟨k, hk, rfl, hinv⟩ := hrel
    obtain ⟨Av, cv, qs, h3, hown, hreps, hb⟩ := hinv
    by_cases hlt : k < ns.length
    · have hkn := List.getElem?_eq_getElem hlt
      obtain ⟨b, off, Ap, cp, As, cs, rfl, hbb, cu, cv', rp, rs⟩ := (HT.out.below hb).at_ hkn
      generalize ns[k] = nd at *
      have hok := HG.out.2 k nd hlt hkn
      have HK := Lib.hid (take_snoc' ns k nd hkn)
      have hn1 : nd.ps.length ≤ 4 := by have := hok.1; have := hok.2.1; omega
      have hn2 : nd.ss.length ≤ 4 := hok.2.1
      have c3 : wr.cell? ⟨w.heap.size, 0, none⟩ = some (.slice Av k cv) := by rw [cell_of_row _ _ _ _ _ _ h3]; rfl
      have f3 : wr.frozen? ⟨w.heap.size, 0, none⟩ = false := by simp [World.frozen?, h3]
      have hbs : w.heap.size < wr.heap.size := (Array.getElem?_eq_some_iff.1 h3).1
      have hne3 := own_blk_ne hown (t := 73) h3 (by decide)
      have HNE := Lib.hid (show some w.heap.size ≠ (Value.slice Av k cv).ownBlock from fun h => hne3 h.symm)
      clear hne3
      have hkl : (ns.take k).length = k := by rw [List.length_take]; omega
      have HKL := Lib.hid hkl
      clear hkl
      have HO := Lib.hid hown
      have HR := Lib.hid hreps
      have HB := Lib.hid hb
      have HOK := Lib.hid hok
      have HP := Lib.hid rp
      have HS := Lib.hid rs
      have H3 := Lib.hid h3
      clear hkn hok hown hreps hb rp rs h3
      by_cases hs0 : nd.ss.length = 0
      · have hs0' : ((nd.ss.length : Int) == 0) = true := by rw [hs0]; rfl
        have HS0 := Lib.hid hs0
        clear hs0
        go_wp2_with fail
        obtain ⟨W0, hW0⟩ : ∃ W0, W0 = wr.alloc (Obj.cells #[Value.slice Ap nd.ps.length cp, Value.slice As nd.ss.length cs] 76) := ⟨_, rfl⟩
        have hbW : Below wr.heap.size wr W0 := by rw [hW0]; exact (Below.refl _ _).alloc (Nat.le_refl _) _
        have hbsW : wr.heap.size < W0.heap.size := by rw [hW0]; simp
        have n0 : W0.cell? ⟨wr.heap.size, 0, none⟩ = some (.slice Ap nd.ps.length cp) := by rw [hW0]; simp [World.cell?_alloc_new]
        have n1 : W0.cell? ⟨wr.heap.size, 1, none⟩ = some (.slice As nd.ss.length cs) := by rw [hW0]; simp [World.cell?_alloc_new]
        have c3W := cell_bel c3 hbW
        have HNN := Lib.hid (show some wr.heap.size ≠ (Value.slice Av k cv).ownBlock from fun he => by have := (HO.out.lt _ he.symm).2; omega)
        rw [← hW0]
        clear hW0
        refine wp_region_order (fun w' => W0.grownBy w' (Value.slice Av k cv).ownBlock) [0] [1, 2, 3, 4] (by kernel_rfl) (by kernel_rfl) (grown_of_bel (below_drew' (Below.refl _ _))) ?_
        repeat
          apply TakesThen.cons rfl rfl
          · intro w' hw'
            have e3 := hw'.cell c3W HNE.out
            go_simp
            with_reducible rfl
          simp only [Act.put, List.setIfInBounds_toArray, List.set_cons_zero, List.set_cons_succ]
        refine TakesThen.nil ?_
        refine Chain.step rfl rfl (fun K hK => ?_)
        go_simp
        refine (EMPTY_any (Own (.slice Av k cv)) _ ((own_oldX HO.out).ext (by simp; omega))).mono ?_
        rintro e w1 ⟨p, rfl, hrep, hb1⟩
        have hkid1 := kids_empty hrep qs
        have hX1 : Below wr.heap.size wr w1 := below_trans (below_drew' hbW) hb1
        have hY1 : Below W0.heap.size W0 w1 := below_trans (below_drew' (Below.refl _ _)) hb1
        have hrep' : Rep w1 (Own (.slice Av k cv)) p (build1 (built (ns.take k)) nd).1 (build1 (built (ns.take k)) nd).2 := by
          have : build1 (built (ns.take k)) nd = (0, .nil) := by simp [build1, HS0.out, kindOf, List.eq_nil_of_length_eq_zero HS0.out, mkTops_nil]
          rw [this]; exact hrep
        clear hrep hb1
        have HIN1 := Lib.hid hX1
        obtain ⟨pg, _, _, _, _, rfl, _⟩ := hrep'.head
        have HR1 := Lib.hid hrep'
        have HKD1 := Lib.hid hkid1
        refine hK _ _ (grown_of_bel hY1) ?_
        clear hK hrep' hkid1
        try simp only [Act.put, List.setIfInBounds_toArray, List.set_cons_zero, List.set_cons_succ]
        refine Chain.step rfl rfl (fun K hK => ?_)
        go_simp
        have hX2 := below_alloc' hX1 (Obj.cells #[Value.pointer (some ⟨pg, 0, none⟩)] 72)
        have hY2 := below_alloc' hY1 (Obj.cells #[Value.pointer (some ⟨pg, 0, none⟩)] 72)
        refine hK _ _ (grown_of_bel hY2) ?_
        clear hK
        refine Chain.step rfl rfl (fun K hK => ?_)
        refine wp_append_bel (.tmp 44) (.tmp 46) 73 rfl w w.heap.size 72 i0 _ 1 8 Try.underlying73 hi0 hz0 hz1 hz2 rfl (by omega) (.slice Av k cv) k (ptrs qs) rfl (ownsRow_ext HO.out hX2) _ _ 1 1 _ rfl (reads_new (by simp) rfl) (by simp [Value.oneCell']) (by omega) (by omega)
          (below_trans' HB.out (by omega) hX2) (by have := hX2.size; omega) ?_
        intro v3 w3 hown3 hb3 hgr hat
        have HIN := Lib.hid (BInv2.step (Nat.le_refl _) HKL.out HK.out ((hX2.block _ hbs).trans H3.out) (ownsRow_ext HO.out hX2) (HR.out.stay (Stay.of_below hX2)) (HR1.out.stay ((Stay.refl _).alloc _)) (HKD1.out.stay ((Stay.refl _).alloc _)) hown3 hb3 hgr hat)
        have c33 := hgr.cell (cell_bel c3 hX2) HNE.out
        have f33 : w3.frozen? ⟨w.heap.size, 0, none⟩ = false := by
          have := (hgr.block w.heap.size (by have := hX2.size; omega) HNE.out).trans ((hX2.block _ hbs).trans H3.out)
          simp [World.frozen?, this]
        obtain ⟨A3, cc3, rfl, _⟩ := own_slice hown3
        refine hK _ _ (grown_grown (grown_of_bel hY2) hgr) ?_
        clear hK hown3 hb3 hgr hat hX1 hX2 hY1 hY2 c3 c3W n0 n1
        try simp only [Act.put, List.setIfInBounds_toArray, List.set_cons_zero, List.set_cons_succ]
        refine Chain.last (by kernel_rfl) rfl rfl (fun K hK => ?_)
        go_simp
        refine hK _ _ ?_
        clear hK
        refine NoPanic.normal ?_
        go_wp2_with fail
        go_roundw
        case rel => exact ⟨k + 1, by omega, by go_num, HIN.out⟩
        case measure => simp [intOf]; omega
      · by_cases hs1 : nd.ss.length = 1
        · have hs0' : ((nd.ss.length : Int) == 0) = false := by rw [hs1]; rfl
          have hs1' : ((nd.ss.length : Int) == 1) = true := by rw [hs1]; rfl
          obtain ⟨s, pp, hss, hps, hs0, hs1000, hp0, hpk, _⟩ := HOK.out.2.2 0 (by omega)
          have hpl := HOK.out.1
          obtain ⟨pn, rfl⟩ := Int.eq_ofNat_of_zero_le hp0
          have hpn : pn < k := by omega
          obtain ⟨b1, off1, u1, rfl, hb1, hu1, hc1⟩ := HP.out.at1 (k := 0) (by omega)
          obtain ⟨_, hps', rfl⟩ := ints_at hu1
          rw [hps] at hps'; cases hps'
          obtain ⟨b2, off2, u2, rfl, hb2, hu2, hc2⟩ := HS.out.at1 (k := 0) (by omega)
          obtain ⟨_, hss', rfl⟩ := ints_at hu2
          rw [hss] at hss'; cases hss'
          rw [Nat.add_zero] at hc1 hc2
          have hql : qs.length = k := by have := HO.out.1; simpa [ptrs] using this
          obtain ⟨q, hq⟩ : ∃ q, qs[pn]? = some q := ⟨_, List.getElem?_eq_getElem (show pn < qs.length by omega)⟩
          obtain ⟨kf, hkf, hrepq⟩ := HR.out.1 pn _ hq
          have HQ := Lib.hid hq
          have HKF := Lib.hid hkf
          have HRQ := Lib.hid hrepq
          have HSS := Lib.hid (show nd.ss = [s] by match nd.ss, hs1, hss with | [x], _, h => simpa using h)
          have HPS := Lib.hid (show nd.ps = [(pn : Int)] by match nd.ps, (show nd.ps.length = 1 by omega), hps with | [x], _, h => simpa using h)
          have hl1 : (0 : Int) < (nd.ps.length : Int) := by omega
          have hl2 : (0 : Int) < (nd.ss.length : Int) := by omega
          have hl1n : 0 < nd.ps.length := by omega
          have hl2n : 0 < nd.ss.length := by omega
          have HS1 := Lib.hid hs1
          have HPL := Lib.hid hpl
          have HN1 := Lib.hid (show some b1 ≠ (Value.slice Av k cv).ownBlock from fun he => by have := (HO.out.lt _ he.symm).1; omega)
          have HN2 := Lib.hid (show some b2 ≠ (Value.slice Av k cv).ownBlock from fun he => by have := (HO.out.lt _ he.symm).1; omega)
          clear hq hkf hrepq hs1 hpl hss hps hu1 hu2 hql
          go_wp2_with fail
          obtain ⟨W0, hW0⟩ : ∃ W0, W0 = wr.alloc (Obj.cells #[Value.slice (some ⟨b1, off1, none⟩) nd.ps.length cp, Value.slice (some ⟨b2, off2, none⟩) nd.ss.length cs] 76) := ⟨_, rfl⟩
          have hbW : Below wr.heap.size wr W0 := by rw [hW0]; exact (Below.refl _ _).alloc (Nat.le_refl _) _
          have hbsW : wr.heap.size < W0.heap.size := by rw [hW0]; simp
          have n0 : W0.cell? ⟨wr.heap.size, 0, none⟩ = some (.slice (some ⟨b1, off1, none⟩) nd.ps.length cp) := by rw [hW0]; simp [World.cell?_alloc_new]
          have n1 : W0.cell? ⟨wr.heap.size, 1, none⟩ = some (.slice (some ⟨b2, off2, none⟩) nd.ss.length cs) := by rw [hW0]; simp [World.cell?_alloc_new]
          have c3W := cell_bel c3 hbW
          have HNN := Lib.hid (show some wr.heap.size ≠ (Value.slice Av k cv).ownBlock from fun he => by have := (HO.out.lt _ he.symm).2; omega)
          rw [← hW0]
          clear hW0
          have d1 := cell_bel hc1 hbW
          have d2 := cell_bel hc2 hbW
          refine wp_region_order (fun w' => W0.grownBy w' (Value.slice Av k cv).ownBlock) [0, 1, 2, 3, 4, 5, 7, 8, 9, 10] [6, 11, 12, 13, 14] (by kernel_rfl) (by kernel_rfl) (grown_of_bel (below_drew' (Below.refl _ _))) ?_
          repeat
            apply TakesThen.cons rfl rfl
            · intro w' hw'
              have e3 := hw'.cell c3W HNE.out
              have e0 := hw'.cell n0 HNN.out
              have e1 := hw'.cell n1 HNN.out
              have g1 := hw'.cell d1 HN1.out
              have g2 := hw'.cell d2 HN2.out
              go_simp
              with_reducible rfl
            try simp only [Act.put, List.setIfInBounds_toArray, List.set_cons_zero, List.set_cons_succ]
          refine TakesThen.nil ?_
          refine Chain.step rfl rfl (fun K hK => ?_)
          go_simp
          refine (at_any w.heap.size Av k cv qs pn q W0.drew ((hbW.block _ hbs).trans H3.out) (Reads.of_own (ownsRow_ext HO.out (below_drew' hbW))) hpn HQ.out).mono ?_
          rintro e w' ⟨rfl, rfl⟩
          refine hK _ _ (grown_of_bel (below_drew' (Below.refl _ _))) ?_
          clear hK
          try simp only [Act.put, List.setIfInBounds_toArray, List.set_cons_zero, List.set_cons_succ]
          refine Chain.step rfl rfl (fun K hK => ?_)
          go_simp
          refine (NewSingletonK_any (Own (.slice Av k cv)) _ kf.1 kf.2 s _ ((own_oldX HO.out).ext (by simp; omega)) (HRQ.out.stay ((Stay.of_below hbW).drew))).mono ?_
          rintro e w1 ⟨p, rfl, hrep, hkd, _, hb1⟩
          have hkid1 : KidIn w1 (Own (.slice Av k cv)) p qs := ⟨_, hkd, fun x hx => by simp at hx; subst hx; exact List.mem_of_getElem? HQ.out⟩
          have hX1 : Below wr.heap.size wr w1 := below_trans (below_drew' hbW) hb1
          have hY1 : Below W0.heap.size W0 w1 := below_trans (below_drew' (Below.refl _ _)) hb1
          have hrep' : Rep w1 (Own (.slice Av k cv)) p (build1 (built (ns.take k)) nd).1 (build1 (built (ns.take k)) nd).2 := by
            have : build1 (built (ns.take k)) nd = (1, .cons s kf.1 kf.2 .nil) := by
              simp [build1, HSS.out, HPS.out, kindOf, mkTops, HKF.out]
            rw [this]; exact hrep
          clear hrep hb1 d1 d2 hc1 hc2
          have HIN1 := Lib.hid hX1
          obtain ⟨pg, _, _, _, _, rfl, _⟩ := hrep'.head
          have HR1 := Lib.hid hrep'
          have HKD1 := Lib.hid hkid1
          refine hK _ _ (grown_of_bel hY1) ?_
          clear hK hrep' hkid1
          try simp only [Act.put, List.setIfInBounds_toArray, List.set_cons_zero, List.set_cons_succ]
          refine Chain.step rfl rfl (fun K hK => ?_)
          go_simp
          have hX2 := below_alloc' hX1 (Obj.cells #[Value.pointer (some ⟨pg, 0, none⟩)] 72)
          have hY2 := below_alloc' hY1 (Obj.cells #[Value.pointer (some ⟨pg, 0, none⟩)] 72)
          refine hK _ _ (grown_of_bel hY2) ?_
          clear hK
          refine Chain.step rfl rfl (fun K hK => ?_)
          refine wp_append_bel (.tmp 50) (.tmp 62) 73 rfl w w.heap.size 72 i0 _ 1 8 Try.underlying73 hi0 hz0 hz1 hz2 rfl (by omega) (.slice Av k cv) k (ptrs qs) rfl (ownsRow_ext HO.out hX2) _ _ 1 1 _ rfl (reads_new (by simp) rfl) (by simp [Value.oneCell']) (by omega) (by omega)
            (below_trans' HB.out (by omega) hX2) (by have := hX2.size; omega) ?_
          intro v3 w3 hown3 hb3 hgr hat
          have HIN := Lib.hid (BInv2.step (Nat.le_refl _) HKL.out HK.out ((hX2.block _ hbs).trans H3.out) (ownsRow_ext HO.out hX2) (HR.out.stay (Stay.of_below hX2)) (HR1.out.stay ((Stay.refl _).alloc _)) (HKD1.out.stay ((Stay.refl _).alloc _)) hown3 hb3 hgr hat)
          have c33 := hgr.cell (cell_bel c3 hX2) HNE.out
          have f33 : w3.frozen? ⟨w.heap.size, 0, none⟩ = false := by
            have := (hgr.block w.heap.size (by have := hX2.size; omega) HNE.out).trans ((hX2.block _ hbs).trans H3.out)
            simp [World.frozen?, this]
          obtain ⟨A3, cc3, rfl, _⟩ := own_slice hown3
          refine hK _ _ (grown_grown (grown_of_bel hY2) hgr) ?_
          clear hK hown3 hb3 hgr hat hX1 hX2 hY1 hY2 c3 c3W n0 n1
          try simp only [Act.put, List.setIfInBounds_toArray, List.set_cons_zero, List.set_cons_succ]
          refine Chain.last (by kernel_rfl) rfl rfl (fun K hK => ?_)
          go_simp
          refine hK _ _ ?_
          clear hK
          refine NoPanic.normal ?_
          go_wp2_with fail
          go_roundw
          case rel => exact ⟨k + 1, by omega, by go_num, HIN.out⟩
          case measure => simp [intOf]; omega
        · have hs0' : ((nd.ss.length : Int) == 0) = false := by rw [beq_eq_false_iff_ne]; omega
          have hs1' : ((nd.ss.length : Int) == 1) = false := by rw [beq_eq_false_iff_ne]; omega
          have hpl := HOK.out.1
          have HPL := Lib.hid hpl
          have HKD := Lib.hid (show kindOf nd.ss.length = 2 by simp [kindOf, hs0, hs1])
          clear hpl hs0 hs1
          obtain ⟨wo, rfl⟩ : ∃ wo : World, wo = wr := ⟨_, rfl⟩
          go_wp2_with fail
          obtain ⟨W0, hW0⟩ : ∃ W0, W0 = wo.alloc (Obj.cells #[Value.slice Ap nd.ps.length cp, Value.slice As nd.ss.length cs] 76) := ⟨_, rfl⟩
          have hbW : Below wo.heap.size wo W0 := by rw [hW0]; exact (Below.refl _ _).alloc (Nat.le_refl _) _
          have hbsW : wo.heap.size < W0.heap.size := by rw [hW0]; simp
          have n0 : W0.cell? ⟨wo.heap.size, 0, none⟩ = some (.slice Ap nd.ps.length cp) := by rw [hW0]; simp [World.cell?_alloc_new]
          have n1 : W0.cell? ⟨wo.heap.size, 1, none⟩ = some (.slice As nd.ss.length cs) := by rw [hW0]; simp [World.cell?_alloc_new]
          have c3W := cell_bel c3 hbW
          have HNN := Lib.hid (show some wo.heap.size ≠ (Value.slice Av k cv).ownBlock from fun he => by have := (HO.out.lt _ he.symm).2; omega)
          rw [← hW0]
          clear hW0
          go_loopw [7, 23] (fun v i wr => ∃ m : Nat, m ≤ nd.ps.length ∧ i = .int .i64 m ∧ ArrInv W0 wr qs nd.ps m v) (fun _ i _ => nd.ps.length - (intOf i).toNat)
          case atStart => exact ⟨0, Nat.zero_le _, rfl, [], World.ownsRow_nil _ _ _ _, fun j q hj => by simp at hj, Below.refl _ _⟩
          case round =>
            obtain ⟨m, hm', rfl, rs, hownp, hpk, hbi⟩ := hrel
            by_cases hml : m < nd.ps.length
            · obtain ⟨s, pp, hss, hps, _, _, hp0, hpk2, _⟩ := HOK.out.2.2 m (by have := HPL.out; omega)
              obtain ⟨pn, rfl⟩ := Int.eq_ofNat_of_zero_le hp0
              have hpn : pn < k := by omega
              obtain ⟨b1, off1, u1, rfl, hb1, hu1, hc1⟩ := HP.out.at1 (k := m) hml
              obtain ⟨_, hps', rfl⟩ := ints_at hu1
              rw [hps] at hps'; cases hps'
              obtain ⟨q, hq⟩ : ∃ q, qs[pn]? = some q := ⟨_, List.getElem?_eq_getElem (show pn < qs.length by have := HO.out.1; simp [ptrs] at this; omega)⟩
              have hci := cell_bel (cell_bel hc1 hbW) hbi
              have HQ := Lib.hid hq
              have HPS := Lib.hid hps
              have HPK := Lib.hid hpk
              have HBI := Lib.hid hbi
              have hbis := hbi.size
              clear hq hps hss hu1 hc1 hpk hbi n0 n1 c3W
              go_wp2_with fail
              refine (at_any w.heap.size Av k cv qs pn q wr ((HBI.out.block _ (by omega)).trans ((hbW.block _ hbs).trans H3.out)) (Reads.of_own (ownsRow_ext HO.out (below_trans hbW HBI.out))) hpn HQ.out).mono ?_
              rintro e w' ⟨rfl, rfl⟩
              obtain ⟨pg, hpg⟩ : ∃ pg, q = ⟨pg, 0, none⟩ := by
                obtain ⟨_, _, g, hg, _⟩ := HR.out.1 pn q HQ.out
                exact ⟨g, hg⟩
              subst hpg
              go_wp2_with (at_builtin; (refine wpList_append_bel rfl (.tmp 27) (.tmp 31) 73 rfl W0 W0.heap.size 72 i0 _ 1 8 Try.underlying73 hi0 hz0 hz1 hz2 rfl (by omega) _ m (ptrs rs) rfl (hownp.alloc _) _ _ 1 1 _ rfl (reads_new (by simp) rfl) (by simp [Value.oneCell']) (by omega) (by omega) (below_alloc' HBI.out _) (by simp; omega) ?_); intro v1 w1 hown1 hb1 _ _)
              have HA := Lib.hid (show ArrInv W0 w1 qs nd.ps (m + 1) v1 from ⟨rs ++ [⟨pg, 0, none⟩], by simpa [ptrs] using hown1, HPK.out.snoc (by have := hownp.1; simpa [ptrs] using this) HPS.out HQ.out, hb1⟩)
              clear hown1 hownp hb1 hci
              go_wp2_with fail
              go_roundw
              case rel => exact ⟨m + 1, by omega, by go_num, HA.out⟩
              case measure => simp [intOf]; omega
            · have hmn : m = nd.ps.length := by omega
              have hrl : rs.length = nd.ps.length := by have := hownp.1; simp [ptrs] at this; omega
              obtain ⟨A7, c7, rfl, _⟩ := own_slice hownp
              have HOP := Lib.hid (show wr.ownsRow W0.heap.size 72 1 (.slice A7 m c7) m (ptrs rs) from hownp)
              have HMN := Lib.hid (show m = nd.ss.length by rw [hmn]; exact HPL.out)
              have HRL := Lib.hid hrl
              have HPK := Lib.hid hpk
              have HBI := Lib.hid hbi
              have d1 := cell_bel n1 hbi
              have hbis := hbi.size
              have d3 := cell_bel c3W hbi
              clear hmn hrl hownp hpk hbi n0 n1 c3W
              go_wp2_with fail
              refine wp_region_order (fun w' => wr.grownBy w' (Value.slice Av k cv).ownBlock) [0, 1, 2, 3] [4, 5, 6, 7, 8] (by kernel_rfl) (by kernel_rfl) (grown_of_bel (below_drew' (Below.refl _ _))) ?_
              repeat
                apply TakesThen.cons rfl rfl
                · intro w' hw'
                  have e3 := hw'.cell d3 HNE.out
                  have e1 := hw'.cell d1 HNN.out
                  go_simp
                  with_reducible rfl
                try simp only [Act.put, List.setIfInBounds_toArray, List.set_cons_zero, List.set_cons_succ]
              refine TakesThen.nil ?_
              refine Chain.step rfl rfl (fun K hK => ?_)
              refine wp_append_bel (.const (.slice none 0 0)) (.tmp 37) 22 rfl wr wr.heap.size 3 j0 _ 1 8 Try.underlying22 hj0 hy0 hy1 hy2 rfl (by omega) (.slice none 0 0) 0 [] rfl (World.ownsRow_nil _ _ _ _) w.heap.size As nd.ss.length cs (ints nd.ss) rfl
                ((HS.out.below (hbW.mono (show w.heap.size ≤ wo.heap.size by omega))).below (HBI.out.mono (show w.heap.size ≤ W0.heap.size by omega)).drew) (ints_one _) (by omega) (by omega) (below_drew' (Below.refl _ _)) (Nat.le_refl _) ?_
              intro v8 w8 hown8 hb8 _ _
              rw [Nat.zero_add, List.nil_append] at hown8
              obtain ⟨A8, c8, rfl, _⟩ := own_slice hown8
              refine hK _ _ (grown_of_bel hb8) ?_
              clear hK
              try simp only [Act.put, List.setIfInBounds_toArray, List.set_cons_zero, List.set_cons_succ]
              refine Chain.step rfl rfl (fun K hK => ?_)
              go_simp
              have hNX : ∀ g, (Value.slice A7 m c7).ownBlock = some g → ¬ Own (.slice Av k cv) g := fun g hg hx => by
                have h1 := (HOP.out.lt g hg).1
                have h2 := (HO.out.lt g hx).2
                omega
              have hNX8 : ∀ g, (Value.slice A8 nd.ss.length c8).ownBlock = some g → ¬ Own (.slice Av k cv) g := fun g hg hx => by
                have h1 := (hown8.lt g hg).1
                have h2 := (HO.out.lt g hx).2
                omega
              have hX8 : Below wo.heap.size wo w8 := below_trans (below_trans hbW HBI.out) hb8
              refine (NewArrayK_n (Own (.slice Av k cv)) A7 A8 c7 c8 m nd.ss.length (mkTops (built (ns.take k)) nd.ps nd.ss) nd.ss rs w8 (by rw [mkTops_len _ _ _ HPL.out, HMN.out]) (mkTops_len _ _ _ HPL.out) (mkTops_sts _ _ _ HPL.out)
                ((own_oldX HO.out).ext hX8.size) ((Row.of_own HOP.out hNX).stay (Stay.of_below hb8) (.inr (.inl rfl))) (Row.of_own hown8 hNX8)
                (subs_mk (HR.out.stay (Stay.of_below hX8)).1 _ _ _ HPL.out HRL.out HPK.out) (by omega)).mono ?_
              rintro e w1 ⟨p, rfl, hrep, hkd, _, hb1⟩
              have hkid1 : KidIn w1 (Own (.slice Av k cv)) p qs := ⟨_, hkd, fun x hx => by obtain ⟨i, hi⟩ := List.mem_iff_getElem?.1 hx; obtain ⟨p', _, hp'⟩ := HPK.out i x hi; exact List.mem_of_getElem? hp'⟩
              have hX1 : Below wo.heap.size wo w1 := below_trans hX8 hb1
              have hY1 : Below wr.heap.size wr w1 := below_trans hb8 hb1
              have hrep' : Rep w1 (Own (.slice Av k cv)) p (build1 (built (ns.take k)) nd).1 (build1 (built (ns.take k)) nd).2 := by
                have : build1 (built (ns.take k)) nd = (2, mkTops (built (ns.take k)) nd.ps nd.ss) := by simp [build1, HKD.out]
                rw [this]; exact hrep
              clear hrep hb1 hb8 hown8 hNX hNX8 hX8
              have HIN1 := Lib.hid hX1
              obtain ⟨pg, _, _, _, _, rfl, _⟩ := hrep'.head
              have HR1 := Lib.hid hrep'
              have HKD1 := Lib.hid hkid1
              refine hK _ _ (grown_of_bel hY1) ?_
              clear hK hrep' hkid1
              try simp only [Act.put, List.setIfInBounds_toArray, List.set_cons_zero, List.set_cons_succ]
              refine Chain.step rfl rfl (fun K hK => ?_)
              go_simp
              have hX2 := below_alloc' hX1 (Obj.cells #[Value.pointer (some ⟨pg, 0, none⟩)] 72)
              have hY2 := below_alloc' hY1 (Obj.cells #[Value.pointer (some ⟨pg, 0, none⟩)] 72)
              refine hK _ _ (grown_of_bel hY2) ?_
              clear hK
              refine Chain.step rfl rfl (fun K hK => ?_)
              refine wp_append_bel (.tmp 34) (.tmp 40) 73 rfl w w.heap.size 72 i0 _ 1 8 Try.underlying73 hi0 hz0 hz1 hz2 rfl (by omega) (.slice Av k cv) k (ptrs qs) rfl (ownsRow_ext HO.out hX2) _ _ 1 1 _ rfl (reads_new (by simp) rfl) (by simp [Value.oneCell']) (by omega) (by omega)
                (below_trans' HB.out (by omega) hX2) (by have := hX2.size; omega) ?_
              intro v3 w3 hown3 hb3 hgr hat
              have HIN := Lib.hid (BInv2.step (Nat.le_refl _) HKL.out HK.out ((hX2.block _ hbs).trans H3.out) (ownsRow_ext HO.out hX2) (HR.out.stay (Stay.of_below hX2)) (HR1.out.stay ((Stay.refl _).alloc _)) (HKD1.out.stay ((Stay.refl _).alloc _)) hown3 hb3 hgr hat)
              have c33 := hgr.cell (cell_bel c3 hX2) HNE.out
              have f33 : w3.frozen? ⟨w.heap.size, 0, none⟩ = false := by
                have := (hgr.block w.heap.size (by have := hX2.size; omega) HNE.out).trans ((hX2.block _ hbs).trans H3.out)
                simp [World.frozen?, this]
              obtain ⟨A3, cc3, rfl, _⟩ := own_slice hown3
              refine hK _ _ (grown_grown (grown_of_bel hY2) hgr) ?_
              clear hK hown3 hb3 hgr hat hX1 hX2 hY1 hY2 c3 d3 d1
              try simp only [Act.put, List.setIfInBounds_toArray, List.set_cons_zero, List.set_cons_succ]
              refine Chain.last (by kernel_rfl) rfl rfl (fun K hK => ?_)
              go_simp
              refine hK _ _ ?_
              clear hK
              refine NoPanic.normal ?_
              go_wp2_with fail
              go_roundw
              case rel => exact ⟨k + 1, by omega, by go_num, HIN.out⟩
              case measure => simp [intOf]; omega
    · have hkn : k = ns.length := by omega
      have HKN := Lib.hid hkn
      have HOWN := Lib.hid hown
      have HRP := Lib.hid hreps
      have c3 : wr.cell? ⟨w.heap.size, 0, none⟩ = some (.slice Av k cv) := by rw [cell_of_row _ _ _ _ _ _ h3]; rfl
      clear hkn hown hreps h3
      go_wp2_with fail
      go_ret
      have h1 := HOWN.out
      have h2 := HRP.out
      rw [HKN.out] at h1
      rw [HKN.out, List.take_length] at h2
      exact ⟨Av, cv, qs, by rw [HKN.out]; rfl, h1, h2, hb⟩
end Go.Proofs.Ytcbabfndfikejaa
namespace Go.Proofs.Ytcbabfndfikejaa
open Go.RowKit
set_option linter.unusedSimpArgs false
theorem OwnStk.weak {w : World} {base base' : Nat} {v : Value} {L : List (List Int)} (h : OwnStk w base v L) (hb : base' ≤ base) : OwnStk w base' v L := by
  obtain ⟨us, ⟨h1, h2⟩, h3⟩ := h
  refine ⟨us, ⟨h1, ?_⟩, h3⟩
  rcases h2 with h | ⟨g, cap, cur, hv, hbg, hr⟩
  · exact .inl h
  · exact .inr ⟨g, cap, cur, hv, by omega, hr⟩
set_option maxRecDepth 20000 in
set_option maxHeartbeats 4000000 in
theorem lawStacks_any (A : Option Addr) (c : Nat) (ms : List Nd) (w : World) (ht : Tbl w w.heap.size A ms) (hg : TG ms) (h0 : 0 < ms.length) (h2 : ms.length ≤ 200) :
    Calls Try.prog 27 #[.slice A ms.length c] w (StkPost (tr ms (ms.length - 1)).2 w) := by
  have HT0 := Lib.hid ht
  have HG := Lib.hid hg
  clear ht hg
  have hz : ((ms.length : Int) == 0) = false := by rw [beq_eq_false_iff_ne]; omega
  have hz2 : ¬ (200 : Int) < (ms.length : Int) := by omega
  go_enter Try.func27, Try.ntmps27
  go_wp2_with fail
  refine (lawsNodes_tbl A c ms w HT0.out (by omega)).mono ?_
  rintro e w1 ⟨A1, c1, rfl, ht1, hb1⟩
  have HT := Lib.hid ht1
  have HB1 := Lib.hid hb1
  clear ht1 hb1
  go_wp2_with fail
  go_loopw [21] (fun i wr => ∃ k : Nat, k ≤ ms.length ∧ i = .int .i64 k ∧ Hid (Below w1.heap.size w1 wr)) (fun i _ => ms.length - (intOf i).toNat)
  case atStart => exact ⟨0, Nat.zero_le _, rfl, Lib.hid (Below.refl _ _)⟩
  case round =>
    obtain ⟨k, hk, rfl, HB⟩ := hrel
    by_cases hlt : k < ms.length
    · obtain ⟨nd, hnd⟩ : ∃ nd, ms[k]? = some nd := ⟨_, List.getElem?_eq_getElem hlt⟩
      obtain ⟨b, off, Ap, cp, As, cs, rfl, hbb, cu, cv, rp, rs⟩ := (HT.out.ext HB.out).at_ hnd
      obtain ⟨hpl, hsl, hpar, hasc⟩ := HG.out k nd hnd
      rw [hpl] at cu rp
      have HRP := Lib.hid rp
      have HRS := Lib.hid rs
      have HPL := Lib.hid hpl
      have HPAR := Lib.hid hpar
      have HASC := Lib.hid hasc
      clear hnd rp rs hpar hasc hpl
      have hwr : wr.heap.size ≤ wr.heap.size := Nat.le_refl _
      obtain ⟨V, hV⟩ : ∃ V, wr.alloc (Obj.cells #[Value.slice Ap nd.ss.length cp, Value.slice As nd.ss.length cs] 32) = V := ⟨_, rfl⟩
      have hbV : Below wr.heap.size wr V := by rw [← hV]; exact below_alloc' (Below.refl _ _) _
      obtain ⟨gn, hgn⟩ : ∃ gn, wr.heap.size = gn := ⟨_, rfl⟩
      have x0 : V.cell? ⟨gn, 0, none⟩ = some (.slice Ap nd.ss.length cp) := by rw [← hV, ← hgn]; simp [World.cell?_alloc_new]
      have x1 : V.cell? ⟨gn, 1, none⟩ = some (.slice As nd.ss.length cs) := by rw [← hV, ← hgn]; simp [World.cell?_alloc_new]
      have HBV := Lib.hid (below_trans' HB.out HB.out.size hbV)
      have HRPV := Lib.hid (HRP.out.ext hbV)
      have HRSV := Lib.hid (HRS.out.ext hbV)
      clear hbV
      go_wp2_with fail
      go_loopw [36] (fun i wq => ∃ m n : Nat, m ≤ nd.ss.length ∧ i = .int .i64 m ∧ wq = V.drewN n) (fun i _ => nd.ss.length - (intOf i).toNat)
      case atStart => exact ⟨0, 0, Nat.zero_le _, rfl, rfl⟩
      case round =>
        obtain ⟨m, n, hm, rfl, rfl⟩ := hrel
        clear hV hgn
        by_cases hml : m < nd.ss.length
        · obtain ⟨q, hq, hqk⟩ := HPAR.out m hml
          obtain ⟨b1, off1, u1, rfl, hb1, hu1, hc1⟩ := HRPV.out.at1 hml
          obtain ⟨q', hq', rfl⟩ := ints_at hu1
          rw [hq] at hq'
          cases hq'
          have g1 : ¬ (k : Int) ≤ (q : Int) := by omega
          have g2 : ¬ (q : Int) < 0 := by omega
          have hmi : (m : Int) < (nd.ss.length : Int) := by omega
          by_cases hm0 : m = 0
          · subst hm0
            simp only [Nat.add_zero] at hc1
            clear hu1 hq
            go_wp2_with fail
            refine wp_region_order (fun w' => w' = (V.drewN n).drew) [0, 1, 2, 3, 4, 5, 6, 7, 8, 9, 10, 11, 12, 13, 14, 15, 16, 17, 18, 19, 20, 21, 22, 23, 24] [] (by kernel_rfl) (by kernel_rfl) rfl ?_
            (repeat
              first
              | (apply TakesThen.cons rfl
                 · go_simp; done
                 · intro w' hw'
                   subst hw'
                   go_simp
                   with_reducible rfl
                 try simp only [Act.put, List.getElem_toArray, List.getElem_cons_succ, List.getElem_cons_zero, List.setIfInBounds_toArray, List.set_cons_zero, List.set_cons_succ])
              | (apply TakesThen.pass rfl
                 · go_simp; done
                 try simp only [Act.put, List.getElem_toArray, List.getElem_cons_succ, List.getElem_cons_zero, List.setIfInBounds_toArray, List.set_cons_zero, List.set_cons_succ]))
            refine TakesThen.nil (Chain.nil ?_)
            go_wp2_with fail
            exact ⟨⟨1, n + 1, by omega, rfl, rfl⟩, by simp [intOf]; omega⟩
          · obtain ⟨r, rfl⟩ : ∃ r, m = r + 1 := ⟨m - 1, by omega⟩
            obtain ⟨b2, off2, u2, rfl, hb2, hu2, hc2⟩ := HRSV.out.at1 hml
            obtain ⟨s, hs, rfl⟩ := ints_at hu2
            obtain ⟨b3, off3, u3, e3, hb3, hu3, hc3⟩ := HRSV.out.at1 (k := r) (by omega)
            cases e3
            obtain ⟨s0, hs0, rfl⟩ := ints_at hu3
            have g3 : ¬ s ≤ s0 := by have := HASC.out r s0 s hs0 hs; omega
            clear hu1 hq hu2 hs hu3 hs0
            have g4 : (0 : Int) < ((r + 1 : Nat) : Int) := by omega
            have g5 : IntKind.i64.wrap (((r + 1 : Nat) : Int) - 1) = (r : Int) := by rw [IntKind.wrap_i64]; omega
            have g6 : (r : Int) < (nd.ss.length : Int) := by omega
            have g7 : (r : Int) + 1 < (nd.ss.length : Int) := by omega
            have g8 : (0 : Int) ≤ (r : Int) + 1 := by omega
            have g9 : ((r : Int) + 1).toNat = r + 1 := by omega
            have g10 : (0 : Int) < (r : Int) + 1 := by omega
            have g11 : IntKind.i64.wrap ((r : Int) + 1 - 1) = (r : Int) := by rw [IntKind.wrap_i64]; omega
            have g12 : IntKind.i64.wrap (r : Int) = (r : Int) := by rw [IntKind.wrap_i64]; omega
            go_wp2_with fail
            refine wp_region_order (fun w' => w' = (V.drewN n).drew) [0, 1, 2, 3, 4, 5, 6, 7, 8, 9, 10, 11, 12, 13, 14, 15, 16, 17, 18, 19, 20, 21, 22, 23, 24] [] (by kernel_rfl) (by kernel_rfl) rfl ?_
            (repeat
              first
              | (apply TakesThen.cons rfl
                 · go_simp; done
                 · intro w' hw'
                   subst hw'
                   go_simp
                   with_reducible rfl
                 try simp only [Act.put, List.getElem_toArray, List.getElem_cons_succ, List.getElem_cons_zero, List.setIfInBounds_toArray, List.set_cons_zero, List.set_cons_succ])
              | (apply TakesThen.pass rfl
                 · go_simp; done
                 try simp only [Act.put, List.getElem_toArray, List.getElem_cons_succ, List.getElem_cons_zero, List.setIfInBounds_toArray, List.set_cons_zero, List.set_cons_succ]))
            refine TakesThen.nil (Chain.nil ?_)
            go_wp2_with fail
            exact ⟨⟨r + 1 + 1, n + 1, by omega, rfl, rfl⟩, by simp only [intOf]; omega⟩
        · have hmn : m = nd.ss.length := by omega
          subst hmn
          go_wp2_with fail
          go_roundw
          case rel => exact ⟨k + 1, by omega, by go_num, Lib.hid (HBV.out.trans (((Dr.refl V).drewN n).below.mono HBV.out.size))⟩
          case measure => simp [intOf]; omega
    · have hkn : k = ms.length := by omega
      subst hkn
      obtain ⟨q, hq⟩ : ∃ q, ms.length = q + 1 := ⟨ms.length - 1, by omega⟩
      have HC := Lib.hid (stacks_any q ms A1 c1 wr (HG.out.tab (by omega)) (HT.out.ext HB.out) (by omega))
      have hsub : IntKind.i64.wrap ((ms.length : Int) - 1) = (q : Int) := by rw [IntKind.wrap_i64]; omega
      have HQE : Hid (ms.length - 1 = q) := Lib.hid (by omega)
      clear hq
      go_wp2_with fail
      refine HC.out.mono ?_
      rintro e w3 ⟨v3, L3, rfl, hL3, hown3, hb3⟩
      obtain ⟨A3, c3, rfl, hst3⟩ := hown3.stks
      have HFIN := Lib.hid (show StkPost (tr ms q).2 w (.returned (.tuple #[.slice A3 L3.length c3, .bool (decide ((stkOf (tr ms q).2).length ≤ 120))])) w3 from ⟨_, L3, rfl, hL3, hown3.weak (Nat.le_trans HB1.out.size HB.out.size), below_trans (below_trans HB1.out HB.out) hb3⟩)
      clear hL3 hown3 hst3 hb3 HC
      go_wp2_with fail
      go_returns
      rw [HQE.out]
      exact HFIN.out
end Go.Proofs.Ytcbabfndfikejaa
namespace Go.Proofs.Ytcbabfndfikejaa
open Go.RowKit
theorem impl_info : (Try.prog.info? 56).map (fun i => (i.zero, i.size, i.bytes)) = some (some (.agg #[.slice none 0 0, .slice none 0 0]), 2, 48) := by kernel_rfl
set_option maxHeartbeats 4000000 in
theorem back_any (A : Option Addr) (c : Nat) (ns : List Nd) (w : World) (ht : Tbl w w.heap.size A ns) (hg : ns.length ≤ 100000 ∧ ∀ (k : Nat) (nd : Nd), ns[k]? = some nd → nd.ps.length ≤ 1000 ∧ nd.ss.length ≤ 1000) :
    Calls Try.prog 42 #[.slice A ns.length c] w (fun e w' => ∃ v, e = .returned v ∧ OwnTbl w' w.heap.size 56 v ns ∧ Below w.heap.size w w') := by
  obtain ⟨i0, hi0, hz0, hz1, hz2⟩ := info_parts impl_info
  obtain ⟨j0, hj0, hy0, hy1, hy2⟩ := info_parts int_info
  have hm := hg.1
  have HG := Lib.hid hg
  clear hg
  go_enter Try.func42, Try.ntmps42
  go_wp2_with fail
  go_loopw [3, 9] (fun o i wr => ∃ k : Nat, k ≤ ns.length ∧ i = .int .i64 k ∧ OwnTbl wr w.heap.size 56 o (ns.take k) ∧ Below w.heap.size w wr) (fun _ i _ => ns.length - (intOf i).toNat)
  case atStart => exact ⟨0, Nat.zero_le _, rfl, ⟨[], World.ownsRow_made w #[] 0 (Nat.le_refl _) (by simp [maxLen]) rfl, fun i nd hi => by simp at hi⟩, (Below.refl _ _).alloc (Nat.le_refl _) _⟩
  case round =>
    obtain ⟨k, hk, rfl, hown, hb⟩ := hrel
    by_cases hlt : k < ns.length
    · have hkn := List.getElem?_eq_getElem hlt
      obtain ⟨b, off, Ap, cp, As, cs, rfl, hbb, cu, cv, rp, rs⟩ := (ht.below hb).at_ hkn
      generalize ns[k] = nd at *
      have hok := HG.out.2 k nd hkn
      have HK := Lib.hid (take_snoc' ns k nd hkn)
      have hn1 : nd.ps.length ≤ 1000 := hok.1
      have hn2 : nd.ss.length ≤ 1000 := hok.2
      obtain ⟨xs, ho1, ho2⟩ := hown
      have HO1 := Lib.hid ho1
      have HO2 := Lib.hid ho2
      have HP := Lib.hid rp
      have HS := Lib.hid rs
      have hbs := hb.size
      have HB := Lib.hid hb
      clear ht hkn hok ho1 ho2 rp rs hb
      go_wp2_with fail
      obtain ⟨W0, hW0⟩ : ∃ W0, W0 = wr.alloc (Obj.cells #[Value.slice Ap nd.ps.length cp, Value.slice As nd.ss.length cs] 76) := ⟨_, rfl⟩
      have hbW : Below wr.heap.size wr W0 := by rw [hW0]; exact (Below.refl _ _).alloc (Nat.le_refl _) _
      have hbsW : wr.heap.size + 1 ≤ W0.heap.size := by rw [hW0]; simp
      have c0 : W0.cell? ⟨wr.heap.size, 0, none⟩ = some (.slice Ap nd.ps.length cp) := by rw [hW0]; simp [World.cell?_alloc_new]
      have c1 : W0.cell? ⟨wr.heap.size, 1, none⟩ = some (.slice As nd.ss.length cs) := by rw [hW0]; simp [World.cell?_alloc_new]
      rw [← hW0]
      have HPW : Hid (Reads W0 w.heap.size 1 Ap nd.ps.length (ints nd.ps)) := HP.out.below (hbW.mono hbs)
      have HSW : Hid (Reads W0 w.heap.size 1 As nd.ss.length (ints nd.ss)) := HS.out.below (hbW.mono hbs)
      have HOW : Hid (W0.ownsRow w.heap.size 56 2 u3 (ns.take k).length xs) := ownsRow_ext HO1.out hbW
      have HBW : Hid (Below w.heap.size w W0) := below_trans' HB.out hbs hbW
      have HO2W : Hid (∀ i nd, (ns.take k)[i]? = some nd → ∃ u u', xs[i * 2]? = some u ∧ xs[i * 2 + 1]? = some u' ∧ W0.ownsRow w.heap.size 3 1 u nd.ps.length (ints nd.ps) ∧ W0.ownsRow w.heap.size 3 1 u' nd.ss.length (ints nd.ss)) := fun i nd hi => by
        obtain ⟨u, u', hu, hu', r1, r2⟩ := HO2.out i nd hi
        exact ⟨u, u', hu, hu', ownsRow_ext r1 hbW, ownsRow_ext r2 hbW⟩
      have HNE : Hid (some wr.heap.size ≠ u3.ownBlock) := fun he => by have := (HO1.out.lt _ he.symm).2; omega
      clear hW0
      go_region_held3 (fun w' => w'.cell? ⟨wr.heap.size, 0, none⟩ = some (.slice Ap nd.ps.length cp) ∧ w'.cell? ⟨wr.heap.size, 1, none⟩ = some (.slice As nd.ss.length cs))
        ((refine ⟨?_, ?_⟩ <;> repeat (first | with_reducible assumption | with_reducible refine cell_drew ?_ | with_reducible refine cell_alloc ?_ _ | with_reducible refine World.grownBy.cell hg3 ?_ HNE.out | with_reducible refine cell_bel ?_ hb2 | with_reducible refine cell_bel ?_ hb1)))
        (first
          | (refine step_append_copy (by rfl) (.tmp 14) (.tmp 16) 22 (by rfl) w.heap.size 3 j0 (.int .i64 0) 1 8 Try.underlying22 hj0 hy0 hy1 hy2 rfl (by omega) _ (by rfl) ?_ ?_ w.heap.size Ap nd.ps.length cp (ints nd.ps) (by rfl) (Reads.below HPW.out (Below.mono (B := W0.heap.size) ?_ (by omega))) (by omega) (by omega) ?_
             · first | (refine heap_new' ?_; (first | (simp; done) | (simp; omega)); done) | (refine (heap_old' ?_).trans (heap_new' ?_) <;> (first | (simp; done) | (simp; omega)); done) | (refine (hb1.block _ ?_).trans (heap_new' ?_) <;> (first | (simp; done) | (simp; omega)); done) | (refine (hb1.block _ ?_).trans ((heap_old' ?_).trans (heap_new' ?_)) <;> (first | (simp; done) | (simp; omega)); done)
             · first | omega | (have hz1 := hb1.size; simp at hz1; omega) | (have hz2 := hb2.size; simp at hz2; omega)
             · (repeat (first | with_reducible exact Below.refl _ _ | with_reducible refine below_alloc' ?_ _ | with_reducible refine below_drew' ?_ | with_reducible refine below_trans ?_ hb2 | with_reducible refine below_trans ?_ hb1))
             intro v1 w1 hown1 hb1
             obtain ⟨A1, c1, rfl, hr1⟩ := own_slice hown1)
          | (refine step_append_copy (by rfl) (.tmp 18) (.tmp 20) 22 (by rfl) w.heap.size 3 j0 (.int .i64 0) 1 8 Try.underlying22 hj0 hy0 hy1 hy2 rfl (by omega) _ (by rfl) ?_ ?_ w.heap.size As nd.ss.length cs (ints nd.ss) (by rfl) (Reads.below HSW.out (Below.mono (B := W0.heap.size) ?_ (by omega))) (by omega) (by omega) ?_
             · first | (refine heap_new' ?_; (first | (simp; done) | (simp; omega)); done) | (refine (heap_old' ?_).trans (heap_new' ?_) <;> (first | (simp; done) | (simp; omega)); done) | (refine (hb1.block _ ?_).trans (heap_new' ?_) <;> (first | (simp; done) | (simp; omega)); done) | (refine (hb1.block _ ?_).trans ((heap_old' ?_).trans (heap_new' ?_)) <;> (first | (simp; done) | (simp; omega)); done)
             · first | omega | (have hz1 := hb1.size; simp at hz1; omega) | (have hz2 := hb2.size; simp at hz2; omega)
             · (repeat (first | with_reducible exact Below.refl _ _ | with_reducible refine below_alloc' ?_ _ | with_reducible refine below_drew' ?_ | with_reducible refine below_trans ?_ hb2 | with_reducible refine below_trans ?_ hb1))
             intro v2 w2 hown2 hb2
             obtain ⟨A2, c2, rfl, hr2⟩ := own_slice hown2)
          | (refine step_append_bel (by rfl) (.tmp 13) (.tmp 23) 25 (by rfl) w.heap.size 56 i0 _ 2 48 Try.underlying25 hi0 hz0 hz1 hz2 rfl (by omega) u3 (ns.take k).length xs (by rfl) (ownsRow_ext HOW.out ?_) _ _ 1 1 _ (by rfl) (reads_new (by simp) rfl) (by simp [Value.oneCell']) (by simp; omega) (by omega) (W := w) (below_trans' HBW.out (by omega) ?_) (Nat.le_trans (show w.heap.size ≤ W0.heap.size by omega) (Below.size (w := W0) (B := W0.heap.size) ?_)) ?_
             · (repeat (first | with_reducible exact Below.refl _ _ | with_reducible refine below_alloc' ?_ _ | with_reducible refine below_drew' ?_ | with_reducible refine below_trans ?_ hb2 | with_reducible refine below_trans ?_ hb1))
             · (repeat (first | with_reducible exact Below.refl _ _ | with_reducible refine below_alloc' ?_ _ | with_reducible refine below_drew' ?_ | with_reducible refine below_trans ?_ hb2 | with_reducible refine below_trans ?_ hb1))
             · (repeat (first | with_reducible exact Below.refl _ _ | with_reducible refine below_alloc' ?_ _ | with_reducible refine below_drew' ?_ | with_reducible refine below_trans ?_ hb2 | with_reducible refine below_trans ?_ hb1))
             intro v3 w3 hown3 hb3 hg3 _))
      all_goals
        have HT : Hid (OwnTbl w3 w.heap.size 56 v3 (ns.take k ++ [nd])) := by
          refine OwnTbl.snoc2 (by decide) ⟨HOW.out, HO2W.out⟩ ?_ ?_ ?_ hown3 hg3
          · (repeat (first | with_reducible exact Below.refl _ _ | with_reducible refine below_alloc' ?_ _ | with_reducible refine below_drew' ?_ | with_reducible refine below_trans ?_ hb2 | with_reducible refine below_trans ?_ hb1))
          · (repeat (first | with_reducible exact hown1 | with_reducible exact hown2 | with_reducible refine World.ownsRow.alloc ?_ _ | with_reducible refine own_drew ?_ | with_reducible refine ownsRow_ext ?_ hb2 | with_reducible refine ownsRow_ext ?_ hb1))
          · (repeat (first | with_reducible exact hown1 | with_reducible exact hown2 | with_reducible refine World.ownsRow.alloc ?_ _ | with_reducible refine own_drew ?_ | with_reducible refine ownsRow_ext ?_ hb2 | with_reducible refine ownsRow_ext ?_ hb1))
        clear hown3 hg3 hown1 hown2 hb1 hb2 hr1 hr2
        go_wp2_with fail
        go_roundw
        case rel => exact ⟨k + 1, by omega, by go_num, by rw [HK.out]; exact HT.out, hb3⟩
        case measure => simp [intOf]; omega
    · have hkn : k = ns.length := by omega
      have HKN := Lib.hid hkn
      have HOWN := Lib.hid hown
      clear hkn hown
      go_wp2_with fail
      go_ret
      refine ⟨_, rfl, ?_, hb⟩
      have h := HOWN.out
      rwa [HKN.out, List.take_length] at h
end Go.Proofs.Ytcbabfndfikejaa
