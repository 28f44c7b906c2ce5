/- The walk of zzBuild, which also tells the addresses below: the choices of a table lie in memory. Condition: the table is good. -/
import Derived.Test.YtcbabfndfikejaaMake2
namespace Go.Proofs.Ytcbabfndfikejaa
open Go.RowKit
set_option linter.unusedSimpArgs false

def Reps2 (w : World) (X : Nat → Prop) (bs : List (Nat × Tops)) (qs : List Addr) : Prop := Reps w X bs qs ∧ ∀ q ∈ qs, KidIn w X q qs
theorem Reps2.stay {w w' : World} {X : Nat → Prop} {bs : List (Nat × Tops)} {qs : List Addr} (h : Reps2 w X bs qs) (hs : Stay w w') : Reps2 w' X bs qs := ⟨h.1.stay hs, fun q hq => (h.2 q hq).stay hs⟩
/-- What has been built of the first k nodes. -/
def BInv2 (ns : List Nd) (g3 : Nat) (w wr : World) (k : Nat) : Prop :=
  ∃ A c qs, wr.heap[g3]? = some (.cells #[.slice A k c] 73 (0, 0)) ∧ wr.ownsRow w.heap.size 72 1 (.slice A k c) k (ptrs qs) ∧
    Reps2 wr (Own (.slice A k c)) (built (ns.take k)) qs ∧ Below w.heap.size w wr

theorem NewArrayK_n (X : Nat → Prop) (A A' : Option Addr) (c c' n n' : Nat) (f : Tops) (ss : List Int) (qs : List Addr) (w : World) (hn : f.len = n) (hn' : f.len = n') (hs : f.sts = ss) (hX : OldX X w) (hp : Row w X 72 A n (ptrs qs)) (hq : Row w X 3 A' n' (ints ss)) (hsub : Subs w X f qs) (hm : n ≤ 1000) :
    Calls Try.prog 66 #[.slice A n c, .slice A' n' c'] w (NewPostK X 2 f qs w) := by
  subst hn; subst hs; subst hn'
  exact NewArrayK_any X A A' c c' f qs w hX hp hq hsub hm

theorem BInv2.step {ns : List Nd} {nd : Nd} {g3 : Nat} {w W2 w3 : World} {Av : Option Addr} {k cv : Nat} {qs : List Addr} {p : Addr} {v' : Value}
    (hg3 : w.heap.size ≤ g3) (hk : (ns.take k).length = k) (hkn : ns.take (k + 1) = ns.take k ++ [nd])
    (h3 : W2.heap[g3]? = some (.cells #[.slice Av k cv] 73 (0, 0))) (hown : W2.ownsRow w.heap.size 72 1 (.slice Av k cv) k (ptrs qs)) (hreps : Reps2 W2 (Own (.slice Av k cv)) (built (ns.take k)) qs)
    (hrep : Rep W2 (Own (.slice Av k cv)) p (build1 (built (ns.take k)) nd).1 (build1 (built (ns.take k)) nd).2) (hkid : KidIn W2 (Own (.slice Av k cv)) p qs)
    (hown3 : w3.ownsRow w.heap.size 72 1 v' (k + 1) (ptrs qs ++ [.pointer (some p)])) (hb3 : Below w.heap.size w w3) (hgr : W2.grownBy w3 (Value.slice Av k cv).ownBlock)
    (hat : v'.ownBlock = (Value.slice Av k cv).ownBlock ∨ v'.ownBlock = some W2.heap.size) : BInv2 ns g3 w (w3.setCell ⟨g3, 0, none⟩ v') (k + 1) := by
  have hlt3 : g3 < W2.heap.size := (Array.getElem?_eq_some_iff.1 h3).1
  have hne3 : some g3 ≠ (Value.slice Av k cv).ownBlock := by
    intro he
    rcases hown.2 with ⟨h0, _⟩ | ⟨g, cap, cur, hv, _, hg, _⟩
    · rw [h0] at he; simp [Value.ownBlock] at he
    · rw [hv] at he
      have : g3 = g := by simpa [Value.ownBlock] using he
      subst this
      rw [h3] at hg; injection hg with hg; injection hg with _ ht; cases ht
  have h33 : w3.heap[g3]? = some (.cells #[.slice Av k cv] 73 (0, 0)) := (hgr.block g3 hlt3 hne3).trans h3
  obtain ⟨A', c', rfl, _⟩ := own_slice hown3
  have hne3' : (Value.slice A' (k + 1) c').ownBlock ≠ some g3 := by
    rcases hat with e | e
    · rw [e]; exact fun h => hne3 h.symm
    · rw [e]; intro h; injection h with h; omega
  have hset : w3.grownBy (w3.setCell ⟨g3, 0, none⟩ (.slice A' (k + 1) c')) (some g3) := ⟨rfl, rfl, rfl, by simp [World.setCell], fun j _ hj => Below.heap_setCell _ _ _ _ (fun e => hj (by rw [e]))⟩
  have hmove : Move (Own (.slice Av k cv)) (Own (.slice A' (k + 1) c')) W2 (w3.setCell ⟨g3, 0, none⟩ (.slice A' (k + 1) c')) := by
    intro g cs e he hx hg
    have hgl : g < W2.heap.size := (Array.getElem?_eq_some_iff.1 hg).1
    have hgn : g ≠ g3 := by
      rintro rfl
      rw [h3] at hg; injection hg with hg; injection hg with _ ht
      subst ht
      rcases he with h | h | h <;> cases h
    refine ⟨?_, ?_⟩
    · rw [Below.heap_setCell _ _ _ _ hgn, hgr.block g hgl (fun h => hx h.symm)]; exact hg
    · intro hx'
      rcases hat with e1 | e1
      · exact hx (e1.symm.trans hx')
      · have := e1.symm.trans hx'
        injection this with this
        omega
  refine ⟨A', c', qs ++ [p], ?_, ?_, ?_, ?_⟩
  · rw [heap_setCell_same w3 g3 0 _ _ _ h33]; rfl
  · have := hown3.kept hset (.inr hne3')
    simpa [ptrs] using this
  · refine ⟨?_, fun q hq => ?_⟩
    · intro i q hi
      have hl : qs.length = k := by have := hown.1; simpa [ptrs] using this
      have hbl : (built (ns.take k)).length = k := by rw [built_length, hk]
      rw [hkn, built_snoc]
      rcases Nat.lt_or_ge i k with hik | hik
      · rw [List.getElem?_append_left (by omega)] at hi
        obtain ⟨kf, h1, h2⟩ := hreps.1 i q hi
        exact ⟨kf, by rw [List.getElem?_append_left (by omega)]; exact h1, h2.move hmove⟩
      · have hik' : i = k := by
          rcases Nat.lt_or_ge k i with h | h
          · rw [List.getElem?_eq_none (by simp; omega)] at hi; cases hi
          · omega
        subst hik'
        rw [List.getElem?_append_right (by omega)] at hi
        simp [hl] at hi
        subst hi
        exact ⟨_, by rw [List.getElem?_append_right (by omega)]; simp [hbl], hrep.move hmove⟩
    · rcases List.mem_append.1 hq with h | h
      · exact ((hreps.2 q h).move hmove).more
      · simp at h; subst h
        exact (hkid.move hmove).more
  · exact hb3.setCell hg3 _

set_option maxHeartbeats 8000000 in
theorem zzBuild2_any (A : Option Addr) (c : Nat) (ns : List Nd) (w : World) (ht : Tbl w w.heap.size A ns) (hg : GoodT ns) :
    Calls Try.prog 50 #[.slice A ns.length c] w (fun e w' => ∃ A' c' qs, e = .returned (.slice A' ns.length c') ∧ w'.ownsRow w.heap.size 72 1 (.slice A' ns.length c') ns.length (ptrs qs) ∧
      Reps2 w' (Own (.slice A' ns.length c')) (built ns) qs ∧ Below w.heap.size w w') := by
  obtain ⟨i0, hi0, hz0, hz1, hz2⟩ := info_parts pc_info
  obtain ⟨j0, hj0, hy0, hy1, hy2⟩ := info_parts int_info
  have hm := hg.1
  have HG := Lib.hid hg
  have HT := Lib.hid ht
  clear hg ht
  go_enter Try.func50, Try.ntmps50
  go_wp2_with fail
  go_loopw [13] (fun i wr => ∃ k : Nat, k ≤ ns.length ∧ i = .int .i64 k ∧ BInv2 ns w.heap.size w wr k) (fun i _ => ns.length - (intOf i).toNat)
  case atStart => exact ⟨0, Nat.zero_le _, rfl, none, 0, [], heap_alloc_new w _, World.ownsRow_nil _ _ _ _, ⟨fun i q hi => by simp at hi, by simp⟩, (Below.refl _ _).alloc (Nat.le_refl _) _⟩
  case round =>
    obtain ⟨k, hk, rfl, hinv⟩ := hrel
    obtain ⟨Av, cv, qs, h3, hown, hreps, hb⟩ := hinv
    by_cases hlt : k < ns.length
    · have hkn := List.getElem?_eq_getElem hlt
      obtain ⟨b, off, Ap, cp, As, cs, rfl, hbb, cu, cv', rp, rs⟩ := (HT.out.below hb).at_ hkn
      generalize ns[k] = nd at *
      have hok := HG.out.2 k nd hlt hkn
      have HK := Lib.hid (take_snoc' ns k nd hkn)
      have hn1 : nd.ps.length ≤ 4 := by have := hok.1; have := hok.2.1; omega
      have hn2 : nd.ss.length ≤ 4 := hok.2.1
      have c3 : wr.cell? ⟨w.heap.size, 0, none⟩ = some (.slice Av k cv) := by rw [cell_of_row _ _ _ _ _ _ h3]; rfl
      have f3 : wr.frozen? ⟨w.heap.size, 0, none⟩ = false := by simp [World.frozen?, h3]
      have hbs : w.heap.size < wr.heap.size := (Array.getElem?_eq_some_iff.1 h3).1
      have hne3 := own_blk_ne hown (t := 73) h3 (by decide)
      have HNE := Lib.hid (show some w.heap.size ≠ (Value.slice Av k cv).ownBlock from fun h => hne3 h.symm)
      clear hne3
      have hkl : (ns.take k).length = k := by rw [List.length_take]; omega
      have HKL := Lib.hid hkl
      clear hkl
      have HO := Lib.hid hown
      have HR := Lib.hid hreps
      have HB := Lib.hid hb
      have HOK := Lib.hid hok
      have HP := Lib.hid rp
      have HS := Lib.hid rs
      have H3 := Lib.hid h3
      clear hkn hok hown hreps hb rp rs h3
      by_cases hs0 : nd.ss.length = 0
      · have hs0' : ((nd.ss.length : Int) == 0) = true := by rw [hs0]; rfl
        have HS0 := Lib.hid hs0
        clear hs0
        go_wp2_with fail
        obtain ⟨W0, hW0⟩ : ∃ W0, W0 = wr.alloc (Obj.cells #[Value.slice Ap nd.ps.length cp, Value.slice As nd.ss.length cs] 76) := ⟨_, rfl⟩
        have hbW : Below wr.heap.size wr W0 := by rw [hW0]; exact (Below.refl _ _).alloc (Nat.le_refl _) _
        have hbsW : wr.heap.size < W0.heap.size := by rw [hW0]; simp
        have n0 : W0.cell? ⟨wr.heap.size, 0, none⟩ = some (.slice Ap nd.ps.length cp) := by rw [hW0]; simp [World.cell?_alloc_new]
        have n1 : W0.cell? ⟨wr.heap.size, 1, none⟩ = some (.slice As nd.ss.length cs) := by rw [hW0]; simp [World.cell?_alloc_new]
        have c3W := cell_bel c3 hbW
        have HNN := Lib.hid (show some wr.heap.size ≠ (Value.slice Av k cv).ownBlock from fun he => by have := (HO.out.lt _ he.symm).2; omega)
        rw [← hW0]
        clear hW0
        refine wp_region_order (fun w' => W0.grownBy w' (Value.slice Av k cv).ownBlock) [0] [1, 2, 3, 4] (by kernel_rfl) (by kernel_rfl) (grown_of_bel (below_drew' (Below.refl _ _))) ?_
        repeat
          apply TakesThen.cons rfl rfl
          · intro w' hw'
            have e3 := hw'.cell c3W HNE.out
            go_simp
            with_reducible rfl
          simp only [Act.put, List.setIfInBounds_toArray, List.set_cons_zero, List.set_cons_succ]
        refine TakesThen.nil ?_
        refine Chain.step rfl rfl (fun K hK => ?_)
        go_simp
        refine (EMPTY_any (Own (.slice Av k cv)) _ ((own_oldX HO.out).ext (by simp; omega))).mono ?_
        rintro e w1 ⟨p, rfl, hrep, hb1⟩
        have hkid1 := kids_empty hrep qs
        have hX1 : Below wr.heap.size wr w1 := below_trans (below_drew' hbW) hb1
        have hY1 : Below W0.heap.size W0 w1 := below_trans (below_drew' (Below.refl _ _)) hb1
        have hrep' : Rep w1 (Own (.slice Av k cv)) p (build1 (built (ns.take k)) nd).1 (build1 (built (ns.take k)) nd).2 := by
          have : build1 (built (ns.take k)) nd = (0, .nil) := by simp [build1, HS0.out, kindOf, List.eq_nil_of_length_eq_zero HS0.out, mkTops_nil]
          rw [this]; exact hrep
        clear hrep hb1
        have HIN1 := Lib.hid hX1
        obtain ⟨pg, _, _, _, _, rfl, _⟩ := hrep'.head
        have HR1 := Lib.hid hrep'
        have HKD1 := Lib.hid hkid1
        refine hK _ _ (grown_of_bel hY1) ?_
        clear hK hrep' hkid1
        try simp only [Act.put, List.setIfInBounds_toArray, List.set_cons_zero, List.set_cons_succ]
        refine Chain.step rfl rfl (fun K hK => ?_)
        go_simp
        have hX2 := below_alloc' hX1 (Obj.cells #[Value.pointer (some ⟨pg, 0, none⟩)] 72)
        have hY2 := below_alloc' hY1 (Obj.cells #[Value.pointer (some ⟨pg, 0, none⟩)] 72)
        refine hK _ _ (grown_of_bel hY2) ?_
        clear hK
        refine Chain.step rfl rfl (fun K hK => ?_)
        refine wp_append_bel (.tmp 44) (.tmp 46) 73 rfl w w.heap.size 72 i0 _ 1 8 Try.underlying73 hi0 hz0 hz1 hz2 rfl (by omega) (.slice Av k cv) k (ptrs qs) rfl (ownsRow_ext HO.out hX2) _ _ 1 1 _ rfl (reads_new (by simp) rfl) (by simp [Value.oneCell']) (by omega) (by omega)
          (below_trans' HB.out (by omega) hX2) (by have := hX2.size; omega) ?_
        intro v3 w3 hown3 hb3 hgr hat
        have HIN := Lib.hid (BInv2.step (Nat.le_refl _) HKL.out HK.out ((hX2.block _ hbs).trans H3.out) (ownsRow_ext HO.out hX2) (HR.out.stay (Stay.of_below hX2)) (HR1.out.stay ((Stay.refl _).alloc _)) (HKD1.out.stay ((Stay.refl _).alloc _)) hown3 hb3 hgr hat)
        have c33 := hgr.cell (cell_bel c3 hX2) HNE.out
        have f33 : w3.frozen? ⟨w.heap.size, 0, none⟩ = false := by
          have := (hgr.block w.heap.size (by have := hX2.size; omega) HNE.out).trans ((hX2.block _ hbs).trans H3.out)
          simp [World.frozen?, this]
        obtain ⟨A3, cc3, rfl, _⟩ := own_slice hown3
        refine hK _ _ (grown_grown (grown_of_bel hY2) hgr) ?_
        clear hK hown3 hb3 hgr hat hX1 hX2 hY1 hY2 c3 c3W n0 n1
        try simp only [Act.put, List.setIfInBounds_toArray, List.set_cons_zero, List.set_cons_succ]
        refine Chain.last (by kernel_rfl) rfl rfl (fun K hK => ?_)
        go_simp
        refine hK _ _ ?_
        clear hK
        refine NoPanic.normal ?_
        go_wp2_with fail
        go_roundw
        case rel => exact ⟨k + 1, by omega, by go_num, HIN.out⟩
        case measure => simp [intOf]; omega
      · by_cases hs1 : nd.ss.length = 1
        · have hs0' : ((nd.ss.length : Int) == 0) = false := by rw [hs1]; rfl
          have hs1' : ((nd.ss.length : Int) == 1) = true := by rw [hs1]; rfl
          obtain ⟨s, pp, hss, hps, hs0, hs1000, hp0, hpk, _⟩ := HOK.out.2.2 0 (by omega)
          have hpl := HOK.out.1
          obtain ⟨pn, rfl⟩ := Int.eq_ofNat_of_zero_le hp0
          have hpn : pn < k := by omega
          obtain ⟨b1, off1, u1, rfl, hb1, hu1, hc1⟩ := HP.out.at1 (k := 0) (by omega)
          obtain ⟨_, hps', rfl⟩ := ints_at hu1
          rw [hps] at hps'; cases hps'
          obtain ⟨b2, off2, u2, rfl, hb2, hu2, hc2⟩ := HS.out.at1 (k := 0) (by omega)
          obtain ⟨_, hss', rfl⟩ := ints_at hu2
          rw [hss] at hss'; cases hss'
          rw [Nat.add_zero] at hc1 hc2
          have hql : qs.length = k := by have := HO.out.1; simpa [ptrs] using this
          obtain ⟨q, hq⟩ : ∃ q, qs[pn]? = some q := ⟨_, List.getElem?_eq_getElem (show pn < qs.length by omega)⟩
          obtain ⟨kf, hkf, hrepq⟩ := HR.out.1 pn _ hq
          have HQ := Lib.hid hq
          have HKF := Lib.hid hkf
          have HRQ := Lib.hid hrepq
          have HSS := Lib.hid (show nd.ss = [s] by match nd.ss, hs1, hss with | [x], _, h => simpa using h)
          have HPS := Lib.hid (show nd.ps = [(pn : Int)] by match nd.ps, (show nd.ps.length = 1 by omega), hps with | [x], _, h => simpa using h)
          have hl1 : (0 : Int) < (nd.ps.length : Int) := by omega
          have hl2 : (0 : Int) < (nd.ss.length : Int) := by omega
          have hl1n : 0 < nd.ps.length := by omega
          have hl2n : 0 < nd.ss.length := by omega
          have HS1 := Lib.hid hs1
          have HPL := Lib.hid hpl
          have HN1 := Lib.hid (show some b1 ≠ (Value.slice Av k cv).ownBlock from fun he => by have := (HO.out.lt _ he.symm).1; omega)
          have HN2 := Lib.hid (show some b2 ≠ (Value.slice Av k cv).ownBlock from fun he => by have := (HO.out.lt _ he.symm).1; omega)
          clear hq hkf hrepq hs1 hpl hss hps hu1 hu2 hql
          go_wp2_with fail
          obtain ⟨W0, hW0⟩ : ∃ W0, W0 = wr.alloc (Obj.cells #[Value.slice (some ⟨b1, off1, none⟩) nd.ps.length cp, Value.slice (some ⟨b2, off2, none⟩) nd.ss.length cs] 76) := ⟨_, rfl⟩
          have hbW : Below wr.heap.size wr W0 := by rw [hW0]; exact (Below.refl _ _).alloc (Nat.le_refl _) _
          have hbsW : wr.heap.size < W0.heap.size := by rw [hW0]; simp
          have n0 : W0.cell? ⟨wr.heap.size, 0, none⟩ = some (.slice (some ⟨b1, off1, none⟩) nd.ps.length cp) := by rw [hW0]; simp [World.cell?_alloc_new]
          have n1 : W0.cell? ⟨wr.heap.size, 1, none⟩ = some (.slice (some ⟨b2, off2, none⟩) nd.ss.length cs) := by rw [hW0]; simp [World.cell?_alloc_new]
          have c3W := cell_bel c3 hbW
          have HNN := Lib.hid (show some wr.heap.size ≠ (Value.slice Av k cv).ownBlock from fun he => by have := (HO.out.lt _ he.symm).2; omega)
          rw [← hW0]
          clear hW0
          have d1 := cell_bel hc1 hbW
          have d2 := cell_bel hc2 hbW
          refine wp_region_order (fun w' => W0.grownBy w' (Value.slice Av k cv).ownBlock) [0, 1, 2, 3, 4, 5, 7, 8, 9, 10] [6, 11, 12, 13, 14] (by kernel_rfl) (by kernel_rfl) (grown_of_bel (below_drew' (Below.refl _ _))) ?_
          repeat
            apply TakesThen.cons rfl rfl
            · intro w' hw'
              have e3 := hw'.cell c3W HNE.out
              have e0 := hw'.cell n0 HNN.out
              have e1 := hw'.cell n1 HNN.out
              have g1 := hw'.cell d1 HN1.out
              have g2 := hw'.cell d2 HN2.out
              go_simp
              with_reducible rfl
            try simp only [Act.put, List.setIfInBounds_toArray, List.set_cons_zero, List.set_cons_succ]
          refine TakesThen.nil ?_
          refine Chain.step rfl rfl (fun K hK => ?_)
          go_simp
          refine (at_any w.heap.size Av k cv qs pn q W0.drew ((hbW.block _ hbs).trans H3.out) (Reads.of_own (ownsRow_ext HO.out (below_drew' hbW))) hpn HQ.out).mono ?_
          rintro e w' ⟨rfl, rfl⟩
          refine hK _ _ (grown_of_bel (below_drew' (Below.refl _ _))) ?_
          clear hK
          try simp only [Act.put, List.setIfInBounds_toArray, List.set_cons_zero, List.set_cons_succ]
          refine Chain.step rfl rfl (fun K hK => ?_)
          go_simp
          refine (NewSingletonK_any (Own (.slice Av k cv)) _ kf.1 kf.2 s _ ((own_oldX HO.out).ext (by simp; omega)) (HRQ.out.stay ((Stay.of_below hbW).drew))).mono ?_
          rintro e w1 ⟨p, rfl, hrep, hkd, _, hb1⟩
          have hkid1 : KidIn w1 (Own (.slice Av k cv)) p qs := ⟨_, hkd, fun x hx => by simp at hx; subst hx; exact List.mem_of_getElem? HQ.out⟩
          have hX1 : Below wr.heap.size wr w1 := below_trans (below_drew' hbW) hb1
          have hY1 : Below W0.heap.size W0 w1 := below_trans (below_drew' (Below.refl _ _)) hb1
          have hrep' : Rep w1 (Own (.slice Av k cv)) p (build1 (built (ns.take k)) nd).1 (build1 (built (ns.take k)) nd).2 := by
            have : build1 (built (ns.take k)) nd = (1, .cons s kf.1 kf.2 .nil) := by
              simp [build1, HSS.out, HPS.out, kindOf, mkTops, HKF.out]
            rw [this]; exact hrep
          clear hrep hb1 d1 d2 hc1 hc2
          have HIN1 := Lib.hid hX1
          obtain ⟨pg, _, _, _, _, rfl, _⟩ := hrep'.head
          have HR1 := Lib.hid hrep'
          have HKD1 := Lib.hid hkid1
          refine hK _ _ (grown_of_bel hY1) ?_
          clear hK hrep' hkid1
          try simp only [Act.put, List.setIfInBounds_toArray, List.set_cons_zero, List.set_cons_succ]
          refine Chain.step rfl rfl (fun K hK => ?_)
          go_simp
          have hX2 := below_alloc' hX1 (Obj.cells #[Value.pointer (some ⟨pg, 0, none⟩)] 72)
          have hY2 := below_alloc' hY1 (Obj.cells #[Value.pointer (some ⟨pg, 0, none⟩)] 72)
          refine hK _ _ (grown_of_bel hY2) ?_
          clear hK
          refine Chain.step rfl rfl (fun K hK => ?_)
          refine wp_append_bel (.tmp 50) (.tmp 62) 73 rfl w w.heap.size 72 i0 _ 1 8 Try.underlying73 hi0 hz0 hz1 hz2 rfl (by omega) (.slice Av k cv) k (ptrs qs) rfl (ownsRow_ext HO.out hX2) _ _ 1 1 _ rfl (reads_new (by simp) rfl) (by simp [Value.oneCell']) (by omega) (by omega)
            (below_trans' HB.out (by omega) hX2) (by have := hX2.size; omega) ?_
          intro v3 w3 hown3 hb3 hgr hat
          have HIN := Lib.hid (BInv2.step (Nat.le_refl _) HKL.out HK.out ((hX2.block _ hbs).trans H3.out) (ownsRow_ext HO.out hX2) (HR.out.stay (Stay.of_below hX2)) (HR1.out.stay ((Stay.refl _).alloc _)) (HKD1.out.stay ((Stay.refl _).alloc _)) hown3 hb3 hgr hat)
          have c33 := hgr.cell (cell_bel c3 hX2) HNE.out
          have f33 : w3.frozen? ⟨w.heap.size, 0, none⟩ = false := by
            have := (hgr.block w.heap.size (by have := hX2.size; omega) HNE.out).trans ((hX2.block _ hbs).trans H3.out)
            simp [World.frozen?, this]
          obtain ⟨A3, cc3, rfl, _⟩ := own_slice hown3
          refine hK _ _ (grown_grown (grown_of_bel hY2) hgr) ?_
          clear hK hown3 hb3 hgr hat hX1 hX2 hY1 hY2 c3 c3W n0 n1
          try simp only [Act.put, List.setIfInBounds_toArray, List.set_cons_zero, List.set_cons_succ]
          refine Chain.last (by kernel_rfl) rfl rfl (fun K hK => ?_)
          go_simp
          refine hK _ _ ?_
          clear hK
          refine NoPanic.normal ?_
          go_wp2_with fail
          go_roundw
          case rel => exact ⟨k + 1, by omega, by go_num, HIN.out⟩
          case measure => simp [intOf]; omega
        · have hs0' : ((nd.ss.length : Int) == 0) = false := by rw [beq_eq_false_iff_ne]; omega
          have hs1' : ((nd.ss.length : Int) == 1) = false := by rw [beq_eq_false_iff_ne]; omega
          have hpl := HOK.out.1
          have HPL := Lib.hid hpl
          have HKD := Lib.hid (show kindOf nd.ss.length = 2 by simp [kindOf, hs0, hs1])
          clear hpl hs0 hs1
          obtain ⟨wo, rfl⟩ : ∃ wo : World, wo = wr := ⟨_, rfl⟩
          go_wp2_with fail
          obtain ⟨W0, hW0⟩ : ∃ W0, W0 = wo.alloc (Obj.cells #[Value.slice Ap nd.ps.length cp, Value.slice As nd.ss.length cs] 76) := ⟨_, rfl⟩
          have hbW : Below wo.heap.size wo W0 := by rw [hW0]; exact (Below.refl _ _).alloc (Nat.le_refl _) _
          have hbsW : wo.heap.size < W0.heap.size := by rw [hW0]; simp
          have n0 : W0.cell? ⟨wo.heap.size, 0, none⟩ = some (.slice Ap nd.ps.length cp) := by rw [hW0]; simp [World.cell?_alloc_new]
          have n1 : W0.cell? ⟨wo.heap.size, 1, none⟩ = some (.slice As nd.ss.length cs) := by rw [hW0]; simp [World.cell?_alloc_new]
          have c3W := cell_bel c3 hbW
          have HNN := Lib.hid (show some wo.heap.size ≠ (Value.slice Av k cv).ownBlock from fun he => by have := (HO.out.lt _ he.symm).2; omega)
          rw [← hW0]
          clear hW0
          go_loopw [7, 23] (fun v i wr => ∃ m : Nat, m ≤ nd.ps.length ∧ i = .int .i64 m ∧ ArrInv W0 wr qs nd.ps m v) (fun _ i _ => nd.ps.length - (intOf i).toNat)
          case atStart => exact ⟨0, Nat.zero_le _, rfl, [], World.ownsRow_nil _ _ _ _, fun j q hj => by simp at hj, Below.refl _ _⟩
          case round =>
            obtain ⟨m, hm', rfl, rs, hownp, hpk, hbi⟩ := hrel
            by_cases hml : m < nd.ps.length
            · obtain ⟨s, pp, hss, hps, _, _, hp0, hpk2, _⟩ := HOK.out.2.2 m (by have := HPL.out; omega)
              obtain ⟨pn, rfl⟩ := Int.eq_ofNat_of_zero_le hp0
              have hpn : pn < k := by omega
              obtain ⟨b1, off1, u1, rfl, hb1, hu1, hc1⟩ := HP.out.at1 (k := m) hml
              obtain ⟨_, hps', rfl⟩ := ints_at hu1
              rw [hps] at hps'; cases hps'
              obtain ⟨q, hq⟩ : ∃ q, qs[pn]? = some q := ⟨_, List.getElem?_eq_getElem (show pn < qs.length by have := HO.out.1; simp [ptrs] at this; omega)⟩
              have hci := cell_bel (cell_bel hc1 hbW) hbi
              have HQ := Lib.hid hq
              have HPS := Lib.hid hps
              have HPK := Lib.hid hpk
              have HBI := Lib.hid hbi
              have hbis := hbi.size
              clear hq hps hss hu1 hc1 hpk hbi n0 n1 c3W
              go_wp2_with fail
              refine (at_any w.heap.size Av k cv qs pn q wr ((HBI.out.block _ (by omega)).trans ((hbW.block _ hbs).trans H3.out)) (Reads.of_own (ownsRow_ext HO.out (below_trans hbW HBI.out))) hpn HQ.out).mono ?_
              rintro e w' ⟨rfl, rfl⟩
              obtain ⟨pg, hpg⟩ : ∃ pg, q = ⟨pg, 0, none⟩ := by
                obtain ⟨_, _, g, hg, _⟩ := HR.out.1 pn q HQ.out
                exact ⟨g, hg⟩
              subst hpg
              go_wp2_with (at_builtin; (refine wpList_append_bel rfl (.tmp 27) (.tmp 31) 73 rfl W0 W0.heap.size 72 i0 _ 1 8 Try.underlying73 hi0 hz0 hz1 hz2 rfl (by omega) _ m (ptrs rs) rfl (hownp.alloc _) _ _ 1 1 _ rfl (reads_new (by simp) rfl) (by simp [Value.oneCell']) (by omega) (by omega) (below_alloc' HBI.out _) (by simp; omega) ?_); intro v1 w1 hown1 hb1 _ _)
              have HA := Lib.hid (show ArrInv W0 w1 qs nd.ps (m + 1) v1 from ⟨rs ++ [⟨pg, 0, none⟩], by simpa [ptrs] using hown1, HPK.out.snoc (by have := hownp.1; simpa [ptrs] using this) HPS.out HQ.out, hb1⟩)
              clear hown1 hownp hb1 hci
              go_wp2_with fail
              go_roundw
              case rel => exact ⟨m + 1, by omega, by go_num, HA.out⟩
              case measure => simp [intOf]; omega
            · have hmn : m = nd.ps.length := by omega
              have hrl : rs.length = nd.ps.length := by have := hownp.1; simp [ptrs] at this; omega
              obtain ⟨A7, c7, rfl, _⟩ := own_slice hownp
              have HOP := Lib.hid (show wr.ownsRow W0.heap.size 72 1 (.slice A7 m c7) m (ptrs rs) from hownp)
              have HMN := Lib.hid (show m = nd.ss.length by rw [hmn]; exact HPL.out)
              have HRL := Lib.hid hrl
              have HPK := Lib.hid hpk
              have HBI := Lib.hid hbi
              have d1 := cell_bel n1 hbi
              have hbis := hbi.size
              have d3 := cell_bel c3W hbi
              clear hmn hrl hownp hpk hbi n0 n1 c3W
              go_wp2_with fail
              refine wp_region_order (fun w' => wr.grownBy w' (Value.slice Av k cv).ownBlock) [0, 1, 2, 3] [4, 5, 6, 7, 8] (by kernel_rfl) (by kernel_rfl) (grown_of_bel (below_drew' (Below.refl _ _))) ?_
              repeat
                apply TakesThen.cons rfl rfl
                · intro w' hw'
                  have e3 := hw'.cell d3 HNE.out
                  have e1 := hw'.cell d1 HNN.out
                  go_simp
                  with_reducible rfl
                try simp only [Act.put, List.setIfInBounds_toArray, List.set_cons_zero, List.set_cons_succ]
              refine TakesThen.nil ?_
              refine Chain.step rfl rfl (fun K hK => ?_)
              refine wp_append_bel (.const (.slice none 0 0)) (.tmp 37) 22 rfl wr wr.heap.size 3 j0 _ 1 8 Try.underlying22 hj0 hy0 hy1 hy2 rfl (by omega) (.slice none 0 0) 0 [] rfl (World.ownsRow_nil _ _ _ _) w.heap.size As nd.ss.length cs (ints nd.ss) rfl
                ((HS.out.below (hbW.mono (show w.heap.size ≤ wo.heap.size by omega))).below (HBI.out.mono (show w.heap.size ≤ W0.heap.size by omega)).drew) (ints_one _) (by omega) (by omega) (below_drew' (Below.refl _ _)) (Nat.le_refl _) ?_
              intro v8 w8 hown8 hb8 _ _
              rw [Nat.zero_add, List.nil_append] at hown8
              obtain ⟨A8, c8, rfl, _⟩ := own_slice hown8
              refine hK _ _ (grown_of_bel hb8) ?_
              clear hK
              try simp only [Act.put, List.setIfInBounds_toArray, List.set_cons_zero, List.set_cons_succ]
              refine Chain.step rfl rfl (fun K hK => ?_)
              go_simp
              have hNX : ∀ g, (Value.slice A7 m c7).ownBlock = some g → ¬ Own (.slice Av k cv) g := fun g hg hx => by
                have h1 := (HOP.out.lt g hg).1
                have h2 := (HO.out.lt g hx).2
                omega
              have hNX8 : ∀ g, (Value.slice A8 nd.ss.length c8).ownBlock = some g → ¬ Own (.slice Av k cv) g := fun g hg hx => by
                have h1 := (hown8.lt g hg).1
                have h2 := (HO.out.lt g hx).2
                omega
              have hX8 : Below wo.heap.size wo w8 := below_trans (below_trans hbW HBI.out) hb8
              refine (NewArrayK_n (Own (.slice Av k cv)) A7 A8 c7 c8 m nd.ss.length (mkTops (built (ns.take k)) nd.ps nd.ss) nd.ss rs w8 (by rw [mkTops_len _ _ _ HPL.out, HMN.out]) (mkTops_len _ _ _ HPL.out) (mkTops_sts _ _ _ HPL.out)
                ((own_oldX HO.out).ext hX8.size) ((Row.of_own HOP.out hNX).stay (Stay.of_below hb8) (.inr (.inl rfl))) (Row.of_own hown8 hNX8)
                (subs_mk (HR.out.stay (Stay.of_below hX8)).1 _ _ _ HPL.out HRL.out HPK.out) (by omega)).mono ?_
              rintro e w1 ⟨p, rfl, hrep, hkd, _, hb1⟩
              have hkid1 : KidIn w1 (Own (.slice Av k cv)) p qs := ⟨_, hkd, fun x hx => by obtain ⟨i, hi⟩ := List.mem_iff_getElem?.1 hx; obtain ⟨p', _, hp'⟩ := HPK.out i x hi; exact List.mem_of_getElem? hp'⟩
              have hX1 : Below wo.heap.size wo w1 := below_trans hX8 hb1
              have hY1 : Below wr.heap.size wr w1 := below_trans hb8 hb1
              have hrep' : Rep w1 (Own (.slice Av k cv)) p (build1 (built (ns.take k)) nd).1 (build1 (built (ns.take k)) nd).2 := by
                have : build1 (built (ns.take k)) nd = (2, mkTops (built (ns.take k)) nd.ps nd.ss) := by simp [build1, HKD.out]
                rw [this]; exact hrep
              clear hrep hb1 hb8 hown8 hNX hNX8 hX8
              have HIN1 := Lib.hid hX1
              obtain ⟨pg, _, _, _, _, rfl, _⟩ := hrep'.head
              have HR1 := Lib.hid hrep'
              have HKD1 := Lib.hid hkid1
              refine hK _ _ (grown_of_bel hY1) ?_
              clear hK hrep' hkid1
              try simp only [Act.put, List.setIfInBounds_toArray, List.set_cons_zero, List.set_cons_succ]
              refine Chain.step rfl rfl (fun K hK => ?_)
              go_simp
              have hX2 := below_alloc' hX1 (Obj.cells #[Value.pointer (some ⟨pg, 0, none⟩)] 72)
              have hY2 := below_alloc' hY1 (Obj.cells #[Value.pointer (some ⟨pg, 0, none⟩)] 72)
              refine hK _ _ (grown_of_bel hY2) ?_
              clear hK
              refine Chain.step rfl rfl (fun K hK => ?_)
              refine wp_append_bel (.tmp 34) (.tmp 40) 73 rfl w w.heap.size 72 i0 _ 1 8 Try.underlying73 hi0 hz0 hz1 hz2 rfl (by omega) (.slice Av k cv) k (ptrs qs) rfl (ownsRow_ext HO.out hX2) _ _ 1 1 _ rfl (reads_new (by simp) rfl) (by simp [Value.oneCell']) (by omega) (by omega)
                (below_trans' HB.out (by omega) hX2) (by have := hX2.size; omega) ?_
              intro v3 w3 hown3 hb3 hgr hat
              have HIN := Lib.hid (BInv2.step (Nat.le_refl _) HKL.out HK.out ((hX2.block _ hbs).trans H3.out) (ownsRow_ext HO.out hX2) (HR.out.stay (Stay.of_below hX2)) (HR1.out.stay ((Stay.refl _).alloc _)) (HKD1.out.stay ((Stay.refl _).alloc _)) hown3 hb3 hgr hat)
              have c33 := hgr.cell (cell_bel c3 hX2) HNE.out
              have f33 : w3.frozen? ⟨w.heap.size, 0, none⟩ = false := by
                have := (hgr.block w.heap.size (by have := hX2.size; omega) HNE.out).trans ((hX2.block _ hbs).trans H3.out)
                simp [World.frozen?, this]
              obtain ⟨A3, cc3, rfl, _⟩ := own_slice hown3
              refine hK _ _ (grown_grown (grown_of_bel hY2) hgr) ?_
              clear hK hown3 hb3 hgr hat hX1 hX2 hY1 hY2 c3 d3 d1
              try simp only [Act.put, List.setIfInBounds_toArray, List.set_cons_zero, List.set_cons_succ]
              refine Chain.last (by kernel_rfl) rfl rfl (fun K hK => ?_)
              go_simp
              refine hK _ _ ?_
              clear hK
              refine NoPanic.normal ?_
              go_wp2_with fail
              go_roundw
              case rel => exact ⟨k + 1, by omega, by go_num, HIN.out⟩
              case measure => simp [intOf]; omega
    · have hkn : k = ns.length := by omega
      have HKN := Lib.hid hkn
      have HOWN := Lib.hid hown
      have HRP := Lib.hid hreps
      have c3 : wr.cell? ⟨w.heap.size, 0, none⟩ = some (.slice Av k cv) := by rw [cell_of_row _ _ _ _ _ _ h3]; rfl
      clear hkn hown hreps h3
      go_wp2_with fail
      go_ret
      have h1 := HOWN.out
      have h2 := HRP.out
      rw [HKN.out] at h1
      rw [HKN.out, List.take_length] at h2
      exact ⟨Av, cv, qs, by rw [HKN.out]; rfl, h1, h2, hb⟩
end Go.Proofs.Ytcbabfndfikejaa
