/- The walk of getCachedBasePredictionContext: what comes back is made alike, and stands in the list. Condition: the choices lie in memory and are well made, the list is closed. -/
import Derived.Test.YtcbabfndfikejaaCch
import Derived.Test.YtcbabfndfikejaaCom
namespace Go.Proofs.Ytcbabfndfikejaa
open Go.RowKit
set_option linter.unusedSimpArgs false

/-- The cache and the record hold choices of the list S. -/
structure GS (B : Nat) (S : List Addr) (ca s m vs vm : Nat) (w : World) (es : List Ent) (D : PPrs) : Prop where
  cc : CC B w ca s m es
  nd : (es.map (·.2.1.1)).Nodup
  eo : ∀ x ∈ es, x.2.1.1 ∈ S ∧ x.2.2 ∈ S ∧ Rep w NoX x.2.1.1 x.2.1.2.1 x.2.1.2.2 ∧ Wf x.2.1.2.1 x.2.1.2.2 ∧ Rep w NoX x.2.2 x.2.1.2.1 x.2.1.2.2
  vr : VR w vs vm D
  dk : ∀ x ∈ D, ∃ k f q, Rep w NoX x.1 k f ∧ x.2 = .pointer (some q) ∧ Rep w NoX q k f ∧ q ∈ S
  ne : vs ≠ ca ∧ vs ≠ s ∧ vs ≠ m ∧ vm ≠ ca ∧ vm ≠ s ∧ vm ≠ m
  bv : B ≤ vs ∧ B ≤ vm
  sl : S.length ≤ 1000000
section
variable {B : Nat} {S : List Addr} {ca s m vs vm : Nat} {w w' : World} {es : List Ent} {D : PPrs}
theorem GS.ak (h : GS B S ca s m vs vm w es D) : AllK w (es.map (·.2.1)) := fun x hx => by
  obtain ⟨y, hy, rfl⟩ := List.mem_map.1 hx
  obtain ⟨_, _, h3, h4, _⟩ := h.eo y hy
  exact ⟨h3, h4⟩
theorem GS.el (h : GS B S ca s m vs vm w es D) : es.length ≤ 1000000 := by
  have h1 := nodup_sub _ S h.nd (fun x hx => by
    obtain ⟨y, hy, rfl⟩ := List.mem_map.1 hx
    exact (h.eo y hy).1)
  have h2 := h.sl
  simp only [List.length_map] at h1
  omega
theorem GS.at_ (h : GS B S ca s m vs vm w es D) : ∀ x ∈ D, AtCtx w x.1 := fun x hx => by
  obtain ⟨k, f, q, h1, _⟩ := h.dk x hx
  exact h1.atCtx
theorem GS.vp (h : GS B S ca s m vs vm w es D) : VPtr D := fun x hx => by
  obtain ⟨k, f, q, _, h1, _⟩ := h.dk x hx
  exact ⟨q, h1⟩
theorem GS.below (h : GS B S ca s m vs vm w es D) (hb : Below w.heap.size w w') : GS B S ca s m vs vm w' es D :=
  ⟨h.cc.below hb, h.nd, fun x hx => by
    obtain ⟨h1, h2, h3, h4, h5⟩ := h.eo x hx
    exact ⟨h1, h2, h3.stay (Stay.of_below hb), h4, h5.stay (Stay.of_below hb)⟩, h.vr.below hb, fun x hx => by
    obtain ⟨k, f, q, h1, h2, h3, h4⟩ := h.dk x hx
    exact ⟨k, f, q, h1.stay (Stay.of_below hb), h2, h3.stay (Stay.of_below hb), h4⟩, h.ne, h.bv, h.sl⟩
theorem GS.bw (h : GS B S ca s m vs vm w es D) : B ≤ w.heap.size := by have := h.vr.lt.1; have := h.bv.1; omega
theorem GS.vstay (h : GS B S ca s m vs vm w es D) (hc : Chg (fun j => j = vs ∨ j = vm) w w') : Stay w w' := by
  obtain ⟨⟨len, e1⟩, es', cl, e2, _⟩ := h.vr
  refine hc.stay (fun g cs e hg he => ?_)
  rintro (rfl | rfl)
  · rw [hg] at e1; cases e1; simp [ctxTy] at he
  · rw [hg] at e2; cases e2
theorem GS.vput (h : GS B S ca s m vs vm w es D) {k : Nat} {f : Tops} {p q : Addr} (hp : Rep w NoX p k f) (hq : Rep w NoX q k f) (hqS : q ∈ S) (hv : VR w' vs vm (D ++ [(p, .pointer (some q))])) (hc : Chg (fun j => j = vs ∨ j = vm) w w') :
    GS B S ca s m vs vm w' es (D ++ [(p, .pointer (some q))]) := by
  have hst := h.vstay hc
  obtain ⟨n1, n2, n3, n4, n5, n6⟩ := h.ne
  refine ⟨h.cc.chg hc (by rintro (e | e); exact n1 e.symm; exact n4 e.symm) (by rintro (e | e); exact n2 e.symm; exact n5 e.symm) (by rintro (e | e); exact n3 e.symm; exact n6 e.symm) (fun g cs e hg he => ?_), h.nd, fun x hx => ?_, hv, fun x hx => ?_, h.ne, h.bv, h.sl⟩
  · obtain ⟨⟨len, e1⟩, es', cl, e2, _⟩ := h.vr
    rintro (rfl | rfl)
    · rw [hg] at e1; cases e1; simp [ctxTy] at he
    · rw [hg] at e2; cases e2
  · obtain ⟨h1, h2, h3, h4, h5⟩ := h.eo x hx
    exact ⟨h1, h2, h3.stay hst, h4, h5.stay hst⟩
  · rcases List.mem_append.1 hx with hx | hx
    · obtain ⟨k, f, q, h1, h2, h3, h4⟩ := h.dk x hx
      exact ⟨k, f, q, h1.stay hst, h2, h3.stay hst, h4⟩
    · simp at hx; subst hx
      exact ⟨k, f, q, hp.stay hst, rfl, hq.stay hst, hqS⟩
theorem GS.cstay (h : GS B S ca s m vs vm w es D) (hc : Chg (JX 142 w s m) w w') : Stay w w' := h.cc.2.2.stay (by simp [ctxTy]) (by simp [ctxTy]) hc
theorem GS.cput (h : GS B S ca s m vs vm w es D) {a : Addr} {k : Nat} {f : Tops} {p : Addr} (hf : fstE es k f = none) (hp : Rep w NoX p k f) (hw : Wf k f) (hpS : p ∈ S) (hcc : CC B w' ca s m (es ++ [(a, (p, k, f), p)])) (hc : Chg (JX 142 w s m) w w') :
    GS B S ca s m vs vm w' (es ++ [(a, (p, k, f), p)]) D := by
  have hst := h.cstay hc
  obtain ⟨n1, n2, n3, n4, n5, n6⟩ := h.ne
  obtain ⟨⟨len, e1⟩, es', cl, e2, _⟩ := h.vr
  refine ⟨hcc, ?_, fun x hx => ?_, h.vr.chg hc ?_ ?_, fun x hx => ?_, h.ne, h.bv, h.sl⟩
  · rw [List.map_append, List.nodup_append]
    refine ⟨h.nd, by simp, fun x hx y hy => ?_⟩
    obtain ⟨z, hz, rfl⟩ := List.mem_map.1 hx
    simp at hy; subst hy
    intro e
    obtain ⟨_, _, h3, _⟩ := h.eo z hz
    rw [e] at h3
    have := h3.unique hp
    exact fstE_none hf z hz (by rw [← this.1, ← this.2])
  · rcases List.mem_append.1 hx with hx | hx
    · obtain ⟨h1, h2, h3, h4, h5⟩ := h.eo x hx
      exact ⟨h1, h2, h3.stay hst, h4, h5.stay hst⟩
    · simp at hx; subst hx
      exact ⟨hpS, hpS, hp.stay hst, hw, hp.stay hst⟩
  · rintro (e | e | ⟨cs, e⟩)
    · exact n2 e
    · exact n3 e
    · rw [e1] at e; cases e
  · rintro (e | e | ⟨cs, e⟩)
    · exact n5 e
    · exact n6 e
    · rw [e2] at e; cases e
  · obtain ⟨k, f, q, h1, h2, h3, h4⟩ := h.dk x hx
    exact ⟨k, f, q, h1.stay hst, h2, h3.stay hst, h4⟩
end
/-- What is new in the record is no greater. -/
def DNew (w : World) (D D' : PPrs) (n : Nat) : Prop := ∀ x ∈ D', x ∈ D ∨ ∃ k f, Rep w NoX x.1 k f ∧ f.size ≤ n
theorem PPrs.none_look : ∀ {D : PPrs} {a : Addr}, D.look a = none → ∀ x ∈ D, x.1 ≠ a
  | [], _, _, x, hx => by cases hx
  | (y, u) :: t, a, h, x, hx => by
    unfold PPrs.look at h
    by_cases e : a = y
    · rw [if_pos e] at h; cases h
    · rw [if_neg e] at h
      rcases List.mem_cons.1 hx with rfl | hx
      · exact fun e' => e e'.symm
      · exact PPrs.none_look h x hx
def GCPost (B : Nat) (S : List Addr) (ca s m vs vm : Nat) (D : PPrs) (k : Nat) (f : Tops) (w : World) (e : Ending) (w' : World) : Prop :=
  ∃ q es' D', e = .returned (.pointer (some q)) ∧ q ∈ S ∧ Rep w' NoX q k f ∧ GS B S ca s m vs vm w' es' D' ∧ DNew w' D D' f.size ∧ Stay w w' ∧ Below B w w'
def GcTo (n : Nat) : Prop := ∀ (B : Nat) (S : List Addr) (ca s m vs vm : Nat) (f : Tops) (k : Nat) (p : Addr) (w : World) (es : List Ent) (D : PPrs), f.size < n → GS B S ca s m vs vm w es D → Rep w NoX p k f → Wf k f → p ∈ S → Cl w S →
  Calls Try.prog 56 #[.pointer (some p), .pointer (some ⟨ca, 0, none⟩), .pointer (some ⟨vs, 0, none⟩)] w (GCPost B S ca s m vs vm D k f w)
set_option maxRecDepth 20000 in
set_option maxHeartbeats 4000000 in
theorem gc_step (n : Nat) (IH : GcTo n) : GcTo (n + 1) := by
  intro B S ca s m vs vm f k p w es D hsz hg hp hw hpS hcl
  have HI := Lib.hid IH
  have HG := Lib.hid hg
  have HP := Lib.hid hp
  have HW := Lib.hid hw
  have HCL := Lib.hid hcl
  have HPS := Lib.hid hpS
  have HE := Lib.hid (isEmpty_any NoX p k f w hp hw)
  clear hg hp hw hcl IH hpS
  by_cases hk : k = 0
  · have HK := Lib.hid (decide_eq_true hk)
    clear hk
    go_enter Try.func56, Try.ntmps56
    go_wp2_with fail
    refine HE.out.mono ?_
    rintro e w' ⟨rfl, rfl⟩
    rw [HK.out]
    go_wp2_with fail
    go_ret
    exact ⟨p, es, D, rfl, HPS.out, HP.out, HG.out, fun x hx => .inl hx, Stay.refl _, Below.refl _ _⟩
  have HKN := Lib.hid hk
  have HK := Lib.hid (decide_eq_false hk)
  have HV := Lib.hid (visitGet_any w vs vm D p HG.out.vr HG.out.at_ HP.out.atCtx HG.out.vp)
  clear hk
  go_enter Try.func56, Try.ntmps56
  go_wp2_with fail
  refine HE.out.mono ?_
  rintro e w' ⟨rfl, rfl⟩
  rw [HK.out]
  clear HE
  go_wp2_with fail
  refine HV.out.mono ?_
  rintro e w' ⟨v, hv, rfl, rfl⟩
  have HL := Lib.hid hv
  clear hv HV
  cases v with
  | some q =>
    go_wp2_with fail
    go_ret
    obtain ⟨k', f', q', h1, h2, h3, h4⟩ := HG.out.dk _ (PPrs.look_mem HL.out)
    cases h2
    have hu := h1.unique HP.out
    exact ⟨q, es, D, rfl, h4, by rw [← hu.1, ← hu.2]; exact h3, HG.out, fun x hx => .inl hx, Stay.refl _, Below.refl _ _⟩
  | none =>
  have HC := Lib.hid (cacheGet_any B w ca s m es p k f HG.out.cc HG.out.ak HG.out.el HP.out HW.out)
  go_wp2_with fail
  refine HC.out.mono ?_
  rintro e w1 ⟨rfl, hd⟩
  have HD := Lib.hid hd
  have HG1 := Lib.hid (HG.out.below hd.below)
  have HP1 := Lib.hid (HP.out.stay hd.stay)
  have HB1 := Lib.hid (hd.below.mono HG.out.bw)
  clear hd HC
  cases hf : fstE es k f with
  | some u =>
    have HF := Lib.hid hf
    clear hf
    have HU := Lib.hid (visitPut_any w1 vs vm D p u HG1.out.vr HG1.out.at_ HP1.out.atCtx HL.out)
    go_wp2_with fail
    refine HU.out.mono ?_
    rintro e w2 ⟨⟨v, rfl⟩, hvr, hc⟩
    obtain ⟨e0, p0, h0⟩ := fstE_some HF.out
    obtain ⟨_, h2, _, _, h5⟩ := HG1.out.eo _ h0
    simp only at h2 h5
    have hst := HG1.out.vstay hc
    have HFIN := Lib.hid (show GCPost B S ca s m vs vm D k f w (.returned (.pointer (some u))) w2 from ⟨u, es, _, rfl, h2, h5.stay hst, HG1.out.vput HP1.out h5 h2 hvr hc, fun x hx => by
      rcases List.mem_append.1 hx with hx | hx
      · exact .inl hx
      · simp at hx; subst hx
        exact .inr ⟨k, f, HP1.out.stay hst, Nat.le_refl _⟩, HD.out.stay.trans hst, HB1.out.trans (hc.below (fun j hj => by rcases hj with rfl | rfl; exact HG.out.bv.1; exact HG.out.bv.2) HG1.out.bw)⟩)
    clear hvr hc h2 h5 hst h0 HU
    go_wp2_with fail
    go_ret
    exact HFIN.out
  | none =>
  have HF := Lib.hid hf
  clear hf
  obtain ⟨i0, hi0, hz0, hz1, hz2⟩ := info_parts pc72_info
  obtain ⟨g, qs, hpg, hS, hsub⟩ := HP1.out.kids
  subst hpg
  have hql : qs.length = f.len := Subs.length f qs hsub
  have hss : f.sts.length = f.len := Tops.sts_length f
  have hlm : f.len ≤ 1000 := by
    rcases HW.out.1 with ⟨_, h⟩ | ⟨_, h⟩ | ⟨_, h, h2⟩
    · rw [h]; simp [Tops.len]
    · omega
    · omega
  have HLN := Lib.hid (length_any NoX g k (hsh k f) f.sts qs w1 hS HKN.out)
  rw [hss] at HLN
  have HSH := Lib.hid hS
  have HSB := Lib.hid hsub
  have hmk := fun W => run_make_rowN (P := Try.prog) 73 72 i0 (.pointer none) Try.underlying73 hi0 hz0 .i64 .i64 f.len f.len (Nat.le_refl _) (by rw [hz2]; omega) (by omega) W
  rw [hz1] at hmk
  clear hS hsub hss
  generalize hln : f.len = ln at *
  have HLL := Lib.hid hln
  clear hln
  go_wp2_with fail
  refine HLN.out.mono ?_
  rintro e w' ⟨rfl, rfl⟩
  clear HLN
  go_wp2_with fail
  have hba : Below w1.heap.size w1 (w1.alloc (.cells (madeCells #[Value.pointer none] ln) 72)) := (Below.refl _ _).alloc (Nat.le_refl _) _
  have HG2 := Lib.hid (HG1.out.below hba)
  have HS2 := Lib.hid (Stay.of_below hba)
  have HB2 := Lib.hid (HB1.out.trans (hba.mono HG1.out.bw))
  clear hba hmk
  go_loopw [9, 10, 11] (fun bc vp i wr => ∃ j es' D', j ≤ ln ∧ bc = .bool false ∧ vp = .slice (some ⟨w1.heap.size, 0, none⟩) ln ln ∧ i = .int .i64 (j : Nat) ∧ Hid (GS B S ca s m vs vm wr es' D') ∧ Hid (Stay w1 wr) ∧ Hid (Below B w wr) ∧ Hid (∀ x ∈ D', x ∈ D ∨ ∃ k' f', Rep wr NoX x.1 k' f' ∧ f'.size < f.size)) (fun _ _ i _ => ln - (intOf i).toNat)
  case atStart => exact ⟨0, es, D, Nat.zero_le _, rfl, rfl, rfl, HG2, HS2, HB2, Lib.hid (fun x hx => .inl hx)⟩
  case round =>
    obtain ⟨j, es', D', hj, rfl, rfl, rfl, HGR, HSR, HBR, HDR⟩ := hrel
    by_cases hlt : j < ln
    · have hqj := List.getElem?_eq_getElem (show j < qs.length by omega)
      generalize qs[j] = q at hqj
      obtain ⟨s1, k1, sub, ha, hr⟩ := Subs.at_ f qs j q HSB.out hqj
      have HSHR := Lib.hid (HSH.out.move (HSR.out.move NoX))
      have HGP := Lib.hid (getParent_any NoX g k j (hsh k f) f.sts qs q wr HSHR.out hqj)
      have HQ := Lib.hid (hr.stay HSR.out)
      have hsub := Tops.at_size ha
      have hwq := Tops.at_wf HW.out.2 ha
      have HQW := Lib.hid hwq
      have HQS := Lib.hid ((HCL.out.stay HD.out.stay).kid HSH.out HPS.out (List.mem_of_getElem? hqj))
      have HREC := Lib.hid (HI.out B S ca s m vs vm sub k1 q wr es' D' (by omega) HGR.out HQ.out hwq HQS.out ((HCL.out.stay HD.out.stay).stay HSR.out))
      have HQJ := Lib.hid hqj
      clear hqj ha hr hwq
      go_wp2_with fail
      refine HGP.out.mono ?_
      rintro e w' ⟨rfl, rfl⟩
      clear HGP
      go_wp2_with fail
      refine HREC.out.mono ?_
      rintro e w2 ⟨q2, es2, D2, rfl, hqS, hrq, hgs, hdn, hst, hbl⟩
      have HG3 := Lib.hid hgs
      have HR3 := Lib.hid hrq
      have HD3 := Lib.hid hdn
      have HS3 := Lib.hid (HSR.out.trans hst)
      have HB3 := Lib.hid (HBR.out.trans hbl)
      have HT3 := Lib.hid hst
      have HGP2 := Lib.hid (getParent_any NoX g k j (hsh k f) f.sts qs q w2 (HSHR.out.move (hst.move NoX)) HQJ.out)
      have HEQ := Lib.hid (equals_any sub k1 sub k1 q2 q w2 hrq (HQ.out.stay hst) HQW.out HQW.out)
      clear hgs hrq hdn hst hbl HREC hqS
      go_wp2_with fail
      refine HGP2.out.mono ?_
      rintro e w' ⟨rfl, rfl⟩
      clear HGP2
      go_wp2_with fail
      refine HEQ.out.mono ?_
      rintro e w3 ⟨rfl, hd3⟩
      have HD4 := Lib.hid hd3
      clear hd3 HEQ
      rw [eqB_true ⟨rfl, rfl⟩]
      go_wp2_with fail
      go_roundw
      case rel => exact ⟨j + 1, es2, D2, by omega, rfl, rfl, by go_num, Lib.hid (HG3.out.below HD4.out.below), Lib.hid (HS3.out.trans HD4.out.stay), Lib.hid (HB3.out.trans (HD4.out.below.mono HG3.out.bw)), Lib.hid (fun x hx => by
        rcases HD3.out x hx with h | ⟨k', f', h1, h2⟩
        · rcases HDR.out x h with h | ⟨k', f', h1, h2⟩
          · exact .inl h
          · exact .inr ⟨k', f', (h1.stay HT3.out).stay HD4.out.stay, h2⟩
        · exact .inr ⟨k', f', h1.stay HD4.out.stay, by omega⟩)⟩
      case measure => simp [intOf]; omega
    · have HADD := Lib.hid (cacheAdd_any B wr ca s m es' ⟨g, 0, none⟩ k f HGR.out.cc HGR.out.ak HGR.out.el (HP1.out.stay HSR.out) HW.out HKN.out)
      have HLN := Lib.hid (PPrs.look_none (D := D') (a := ⟨g, 0, none⟩) (fun x hx => by
        rcases HDR.out x hx with h | ⟨k', f', h1, h2⟩
        · exact PPrs.none_look HL.out x h
        · intro e
          rw [e] at h1
          have := h1.unique (HP1.out.stay HSR.out)
          rw [this.2] at h2
          omega))
      go_wp2_with fail
      refine HADD.out.mono ?_
      rintro e w2 ⟨⟨v, rfl⟩, hc⟩
      obtain ⟨es2, hg2, hs2, hb2⟩ : ∃ es2, GS B S ca s m vs vm w2 es2 D' ∧ Stay wr w2 ∧ Below B wr w2 := by
        rcases hc with ⟨hd, _⟩ | ⟨hn, a, hcc, hb, hx⟩
        · exact ⟨es', HGR.out.below hd.below, hd.stay, hd.below.mono HGR.out.bw⟩
        · exact ⟨_, HGR.out.cput hn (HP1.out.stay HSR.out) HW.out HPS.out hcc hx, HGR.out.cstay hx, hb⟩
      have HG4 := Lib.hid hg2
      have HS4 := Lib.hid (HSR.out.trans hs2)
      have HB4 := Lib.hid (HBR.out.trans hb2)
      have HT4 := Lib.hid hs2
      have HU := Lib.hid (visitPut_any w2 vs vm D' ⟨g, 0, none⟩ ⟨g, 0, none⟩ hg2.vr hg2.at_ (HP1.out.stay HS4.out).atCtx HLN.out)
      clear hc hg2 hs2 hb2 HADD
      go_wp2_with fail
      refine HU.out.mono ?_
      rintro e w3 ⟨⟨v, rfl⟩, hvr, hc⟩
      have hst := HG4.out.vstay hc
      have HP4 := HP1.out.stay HS4.out
      have HFIN := Lib.hid (show GCPost B S ca s m vs vm D k f w (.returned (.pointer (some ⟨g, 0, none⟩))) w3 from ⟨_, es2, _, rfl, HPS.out, HP4.stay hst, HG4.out.vput HP4 HP4 HPS.out hvr hc, fun x hx => by
        rcases List.mem_append.1 hx with hx | hx
        · rcases HDR.out x hx with h | ⟨k', f', h1, h2⟩
          · exact .inl h
          · exact .inr ⟨k', f', (h1.stay HT4.out).stay hst, by omega⟩
        · simp at hx; subst hx
          exact .inr ⟨k, f, HP4.stay hst, Nat.le_refl _⟩, (HD.out.stay.trans HS4.out).trans hst, HB4.out.trans (hc.below (fun j hj => by rcases hj with rfl | rfl; exact HG.out.bv.1; exact HG.out.bv.2) HG4.out.bw)⟩)
      clear hvr hc hst HP4 HU
      go_wp2_with fail
      go_ret
      exact HFIN.out
theorem gc_all (n : Nat) : GcTo n := by
  induction n with
  | zero => intro B S ca s m vs vm f k p w es D h; omega
  | succ n ih => exact gc_step n ih
/-- getCachedBasePredictionContext -/
theorem gc_any (B : Nat) (S : List Addr) (ca s m vs vm : Nat) (f : Tops) (k : Nat) (p : Addr) (w : World) (es : List Ent) (D : PPrs) (hg : GS B S ca s m vs vm w es D) (hp : Rep w NoX p k f) (hw : Wf k f) (hpS : p ∈ S) (hcl : Cl w S) :
    Calls Try.prog 56 #[.pointer (some p), .pointer (some ⟨ca, 0, none⟩), .pointer (some ⟨vs, 0, none⟩)] w (GCPost B S ca s m vs vm D k f w) := gc_all _ B S ca s m vs vm f k p w es D (Nat.lt_succ_self _) hg hp hw hpS hcl
end Go.Proofs.Ytcbabfndfikejaa
