/- In one: The walk of zzTable's closure: it numbers what is below a choice, and the choice. Condition: the choices lie in memory and are well made, and are at most 1000. The walk of zzTable. Condition: the choice lies in memory and is well made, and what is below is at most 1000 choices. The walks of what makes a choice, which also tell the addresses of what is below. Conditions: what is below lies in memory. -/
import Derived.Test.YtcbabfndfikejaaZ8
import Derived.Test.YtcbabfndfikejaaZ4
import Derived.Laws.EntriesVeiled
import Derived.Test.YtcbabfndfikejaaZ1
namespace Go.Proofs.Ytcbabfndfikejaa
open Go.RowKit
set_option linter.unusedSimpArgs false
def AddPost (w0 : World) (S : List Addr) (X : Nat → Prop) (B gk ga gt m : Nat) (v : Value) (K : List Addr) (ms : List Nd) (p : Addr) (f : Tops) (w : World) (e : Ending) (w' : World) : Prop :=
  ∃ (i : Nat) (v' : Value) (K' : List Addr) (ms' : List Nd), e = .returned (.int .i64 (i : Int)) ∧ ZMem w' X B gk ga gt m v' K' ms' ∧ ZP w0 S K' ms' ∧ (∃ E, K' = K ++ E) ∧ (∃ F, ms' = ms ++ F) ∧ K'[i]? = some p ∧
    (p ∉ K → i + 1 = K'.length) ∧ (∀ q ∈ K', q ∈ K ∨ ∃ k' f', Rep w0 NoX q k' f' ∧ f'.size ≤ f.size) ∧ Chg (Exc gt m v) w w' ∧ (v'.ownBlock = v.ownBlock ∨ ∀ g, v'.ownBlock = some g → w.heap.size ≤ g)
def AddTo (n : Nat) : Prop := ∀ (w0 : World) (S : List Addr) (X : Nat → Prop) (B gk ga gt m : Nat) (v : Value) (K : List Addr) (ms : List Nd) (p : Addr) (k : Nat) (f : Tops) (w : World), f.size < n → ZMem w X B gk ga gt m v K ms → ZP w0 S K ms → OldX X w → Stay w0 w →
  Rep w0 NoX p k f → Wf k f → f.srt → p ∈ S → Cl w0 S → S.length ≤ 1000 → B ≤ w.heap.size →
  Calls Try.prog 83 #[.pointer (some p), .pointer (some ⟨gk, 0, none⟩), .pointer (some ⟨ga, 0, none⟩), .pointer (some ⟨gt, 0, none⟩)] w (AddPost w0 S X B gk ga gt m v K ms p f w)
theorem Tops.at_srt : ∀ {f : Tops} {i : Nat} {s : Int} {k : Nat} {sub : Tops}, f.srt → f.at? i = some (s, k, sub) → sub.srt
  | .nil, _, _, _, _, _, h => by simp [Tops.at?] at h
  | .cons _ _ _ _, 0, _, _, _, hw, h => by simp [Tops.at?] at h; obtain ⟨_, _, rfl⟩ := h; exact hw.2.1
  | .cons _ _ _ r, i + 1, _, _, _, hw, h => Tops.at_srt (f := r) (i := i) hw.2.2 h
theorem zero3 (w : World) : (zeroValue 3).run Try.prog w = .ok (.int .i64 0) w := by kernel_rfl
theorem eqlNil72 (w : World) (p : Addr) : (binOp .eql 72 (.pointer (some p)) (.pointer none)).run Try.prog w = .ok (.bool false) w := by
  simp [go_sem, Try.underlying72]
set_option maxRecDepth 20000 in
set_option maxHeartbeats 4000000 in
theorem add_step (n : Nat) (IH : AddTo n) : AddTo (n + 1) := by
  intro w0 S X B gk ga gt m v K ms p k f w hsz hM hP hX hS0 hR hW hsrt hpS hCl hS1 hBw
  have hnil := eqlNil72 w p
  obtain ⟨j0, hj0, hy0, hy1, hy2⟩ := info_parts int_info
  have hfl1 : f.len ≤ 1000 := by rcases hW.1 with ⟨_, h⟩ | ⟨_, h⟩ | ⟨_, _, h⟩ <;> first | (rw [h]; simp [Tops.len]) | omega
  have ck : w.cell? ⟨gk, 0, none⟩ = some (.map (some m)) := cell_of hM.hk 0
  have hKl : K.length ≤ 1000 := Nat.le_trans (nodup_sub K S hP.nd hP.sub) hS1
  have hlook := run_lookup_ptr2 (t := 119) Try.underlying119 hM.map (fun x hx => (hP.keys x hx).stay hS0) p (hR.stay hS0).atCtx (.int .i64 0) (zero3 w)
  have HI := Lib.hid IH
  have HM := Lib.hid hM
  have HP := Lib.hid hP
  have HX := Lib.hid hX
  have HR := Lib.hid hR
  have HS0 := Lib.hid hS0
  have HW := Lib.hid hW
  have HSRT := Lib.hid hsrt
  have HPS := Lib.hid hpS
  have HCL := Lib.hid hCl
  clear IH hM hP hX hS0 hR hW hsrt hpS hCl
  by_cases hmem : p ∈ K
  · obtain ⟨i, hi, hl⟩ := (KD_look K p).2 hmem
    rw [hl] at hlook
    simp only [Option.getD_some, Option.isSome_some] at hlook
    have HI2 := Lib.hid hi
    clear hl hi
    go_enter Try.func83, Try.ntmps83
    go_wp2_with fail
    go_ret
    exact ⟨i, v, K, ms, rfl, HM.out, HP.out, ⟨[], by simp⟩, ⟨[], by simp⟩, HI2.out, fun h => absurd hmem h, fun q hq => .inl hq, Chg.refl _ _, .inl rfl⟩
  · have hl := (KD_look K p).1 hmem
    rw [hl] at hlook
    simp only [Option.getD_none, Option.isSome_none] at hlook
    have HL := Lib.hid hl
    clear hl
    obtain ⟨g, qs, rfl, hsh, hsubs⟩ := HR.out.kids
    have HSH := Lib.hid hsh
    have HSUB := Lib.hid hsubs
    have c1 : w.cell? ⟨g, 1, none⟩ = some (.int .i64 (k : Int)) := by
      obtain ⟨g', c2, c3, c4, c5, e, _, hg⟩ := (HR.out.stay HS0.out).head
      cases e
      exact cell_of hg 1
    clear hsh hsubs
    have HL0 : Hid (LInv w0 S X B gk ga gt m v K ms qs f w (w.alloc (Obj.cells #[Value.slice none 0 0, Value.slice none 0 0] 76)) 0) := Lib.hid (by
      have hmv : Move X (Use X (.slice none 0 0) (.slice none 0 0)) w (w.alloc (Obj.cells #[Value.slice none 0 0, Value.slice none 0 0] 76)) := fun y cs e he hx hy =>
        ⟨((Stay.refl w).alloc _).2 y cs e he hy, fun h => by rcases h with h | h | h; exact hx h; cases h; cases h⟩
      refine ⟨.slice none 0 0, .slice none 0 0, v, K, ms, [], HM.out.move3 (Y := NoX) (Chg.of_below (below_alloc' (Below.refl _ _) _)) hmv (fun _ h => by cases h), HP.out, ⟨[], by simp⟩, ⟨[], by simp⟩, heap_new' rfl, World.ownsRow_nil _ _ _ _, by simpa [ints] using World.ownsRow_nil _ _ _ _, fun i hi => absurd hi (by omega), .inl rfl, fun q hq => .inl hq, Chg.of_below (below_alloc' (Below.refl _ _) _), .inl rfl, fun h => ?_⟩
      obtain ⟨xs, ho, _⟩ := HM.out.tbl
      have := (ho.lt _ h).2
      omega)
    by_cases hk0 : k = 0
    · subst hk0
      have hfn : f = .nil := by rcases HW.out.1 with ⟨_, h⟩ | ⟨h, _⟩ | ⟨h, _⟩; exact h; cases h; cases h
      have hk1 : (((0 : Nat) : Int) != 0) = false := rfl
      have c1a := cell_alloc c1 (Obj.cells #[Value.slice none 0 0, Value.slice none 0 0] 76)
      have hf0 : f.len = 0 := by rw [hfn]; rfl
      clear c1
      obtain ⟨wr, hwr⟩ : ∃ wr, w.alloc (Obj.cells #[Value.slice none 0 0, Value.slice none 0 0] 76) = wr := ⟨_, rfl⟩
      rw [hwr] at HL0 c1a
      rw [← hf0] at HL0
      obtain ⟨P, T, v', K', ms', ps, hM, hP, hE, hF, hn, hoP, hoT, hps, hPT, hq, hch, hv, hvn⟩ := HL0.out
      have HM' := Lib.hid hM
      have HP' := Lib.hid hP
      have HE := Lib.hid hE
      have HF := Lib.hid hF
      have HN := Lib.hid hn
      have HOP := Lib.hid hoP
      have HOT := Lib.hid hoT
      have HPSS := Lib.hid hps
      have HQ := Lib.hid hq
      have HCH := Lib.hid hch
      have HV := Lib.hid hv
      clear hM hP hE hF hn hoP hoT hps hPT hq hch hv hvn HL0 hfn hf0
      have hpsl : ps.length = f.len := by have := HOP.out.1; simpa [ints] using this
      obtain ⟨AP, cP, rfl, _⟩ := own_slice HOP.out
      obtain ⟨AT, cT, rfl, _⟩ := own_slice HOT.out
      obtain ⟨xs, hxs, hxr⟩ := HM'.out.tbl
      have HXR := Lib.hid hxr
      have HXS := Lib.hid hxs
      obtain ⟨i1, hi1, hq0, hq1, hq2⟩ := info_parts antlr_info
      have ct := cell_of HM'.out.ht 0
      have cn0 := cell_of HN.out 0
      have cn1 := cell_of HN.out 1
      simp at ct cn0 cn1
      have hwrl := (Array.getElem?_eq_some_iff.1 HN.out).1
      have hmsl : ms'.length ≤ 1000 := by rw [← HP'.out.len]; exact Nat.le_trans (nodup_sub _ _ HP'.out.nd HP'.out.sub) hS1
      have hpn : (⟨g, 0, none⟩ : Addr) ∉ K' := fun hy => by
        rcases HQ.out _ hy with h | ⟨k2, f2, h1, h2⟩
        · exact hmem h
        · obtain ⟨_, rfl⟩ := h1.unique HR.out
          omega
      have hfull : f.sts.take f.len = f.sts := by rw [← Tops.sts_length]; exact List.take_length
      have HOTf := Lib.hid (show wr.ownsRow (w.heap.size + 1) 3 1 (.slice AT f.len cT) f.len (ints f.sts) by have := HOT.out; rw [hfull] at this; exact this)
      have HPf := Lib.hid (zp_snoc HP'.out hpn HPS.out hS1 HR.out HSUB.out HSRT.out hpsl hfl1 HPSS.out)
      have HALO := Lib.hid (World.ownsRow.alloc HXS.out (Obj.cells #[.slice AP f.len cP, .slice AT f.len cT] 76))
      clear hxs hxr hfull
      go_enter Try.func83, Try.ntmps83
      go_wp2_with (first
        | (at_builtin
           go_must (refine wpList_append_bel rfl (.tmp 49) (.tmp 51) _ rfl (wr.alloc (Obj.cells #[.slice AP f.len cP, .slice AT f.len cT] 76)) B 76 i1 _ 2 48 Try.underlying59 hi1 hq0 hq1 hq2 rfl (by omega) v' ms'.length xs rfl HALO.out _ _ 1 1 _ rfl (reads_new (by simp) rfl) (by intro u hu; simp at hu; rcases hu with rfl | rfl <;> rfl) (by omega) (by omega) (Below.refl _ _) (by simp; omega) ?_)
           intro v2 w2 hown2 hb2 hg2 hob2
           go_must (
                obtain ⟨A2, c2, rfl, _⟩ := own_slice hown2
                have hal2 : ∀ {y : Nat} {o : Obj}, wr.heap[y]? = some o → (∀ cs, o ≠ .cells cs 76 (0, 0)) → w2.heap[y]? = some o := fun {y} {o} hy ho => by
                  rw [hg2.block y (Array.getElem?_eq_some_iff.1 ((heap_old' (Array.getElem?_eq_some_iff.1 hy).1).trans hy)).1 (fun e => by
                    rcases HXS.out.2 with ⟨h, _⟩ | ⟨g', cap, cur, h, _, hg', _⟩
                    · rw [h] at e; cases e
                    · rw [h] at e; cases e; rw [hg'] at hy; cases hy; exact ho _ rfl)]
                  exact (heap_old' (Array.getElem?_eq_some_iff.1 hy).1).trans hy
                have hgt2 := hal2 HM'.out.ht (fun cs e => by injection e with _ e; cases e)
                have hgk2 := hal2 HM'.out.hk (fun cs e => by injection e with _ e; cases e)
                obtain ⟨es, clock, hmm, hmf⟩ := HM'.out.map
                have hm2 := hal2 hmm (fun cs e => by cases e)
                have hgkt : gk ≠ gt := fun e => by rw [e, hgt2] at hgk2; cases hgk2
                have hmt : m ≠ gt := fun e => by rw [e, hgt2] at hm2; cases hm2
                have ct2 := cell_of hgt2 0
                have fz2 : w2.frozen? ⟨gt, 0, none⟩ = false := Blk.frozen hgt2 0
                have hgt3 : (w2.setCell ⟨gt, 0, none⟩ (.slice A2 (ms'.length + 1) c2)).heap[gt]? = some (.cells #[.slice A2 (ms'.length + 1) c2] 59 (0, 0)) := by
                  have := Blk.set_ hgt2 0 (.slice A2 (ms'.length + 1) c2)
                  unfold Blk at this
                  simpa using this
                have hgk3 : (w2.setCell ⟨gt, 0, none⟩ (.slice A2 (ms'.length + 1) c2)).heap[gk]? = some (.cells #[.map (some m)] 119 (0, 0)) := by
                  rw [Below.heap_setCell w2 ⟨gt, 0, none⟩ _ gk hgkt]; exact hgk2
                have hm3 : (w2.setCell ⟨gt, 0, none⟩ (.slice A2 (ms'.length + 1) c2)).heap[m]? = some (.map es clock) := by
                  rw [Below.heap_setCell w2 ⟨gt, 0, none⟩ _ m hmt]; exact hm2
                have hch3 : Chg (Exc gt m v) w (w2.setCell ⟨gt, 0, none⟩ (.slice A2 (ms'.length + 1) c2)) := by
                  have e1 : Chg (fun y => y = gt) w2 (w2.setCell ⟨gt, 0, none⟩ (.slice A2 (ms'.length + 1) c2)) := ⟨by first | rfl | simp, by first | rfl | simp, by first | rfl | simp, by simp, fun y _ hy => Below.heap_setCell w2 ⟨gt, 0, none⟩ _ y hy⟩
                  refine (((HCH.out.trans (Chg.of_below (X := NoX) (below_alloc' (Below.refl _ _) _)) (fun _ _ h => by cases h)).trans (Chg.of_grown hg2) (fun y hy h => ?_)).trans e1 (fun y _ h => .inl h))
                  rcases HV.out with h' | h'
                  · rw [h'] at h; exact .inr (.inr h.symm)
                  · have := h' y h.symm; omega
                have hst3 : Stay w0 (w2.setCell ⟨gt, 0, none⟩ (.slice A2 (ms'.length + 1) c2)) := HS0.out.trans (hch3.stay HM.out.exc)
                obtain ⟨w4, hmu, hpm4, hg4, hs4⟩ := run_mapUpdate_ptr (t := 119) Try.underlying119 (w := w2.setCell ⟨gt, 0, none⟩ (.slice A2 (ms'.length + 1) c2)) ⟨es, clock, hm3, hmf⟩ (fun x hx => (HP'.out.keys x hx).stay hst3) ⟨g, 0, none⟩ (HR.out.stay hst3).atCtx ((KD_look K' _).1 hpn) (.int .i64 ((ms'.length : Nat) : Int))
                have hgt4 : w4.heap[gt]? = some (.cells #[.slice A2 (ms'.length + 1) c2] 59 (0, 0)) := by
                  rw [hg4.block gt (Array.getElem?_eq_some_iff.1 hgt3).1 (fun e => hmt (by cases e; rfl))]; exact hgt3
                have ck3 := cell_of hgk3 0
                have ct3 := cell_of hgt3 0
                have ct4 := cell_of hgt4 0
                simp at ct2 ck3 ct3 ct4
                have hsub1 : IntKind.i64.wrap (((ms'.length + 1 : Nat) : Int) - 1) = ((ms'.length : Nat) : Int) := by rw [IntKind.wrap_i64]; omega
                rw [← HP'.out.len] at hpm4
                rw [← KD_snoc] at hpm4
                have HZ := Lib.hid (zmem_snoc HM'.out HXS.out HXR.out HX.out HOP.out HOTf.out hpsl (Tops.sts_length f) hown2 hg2 hpm4 hg4)
                have HC4 := Lib.hid (hch3.trans (Chg.of_grown hg4) (fun y hy h => by cases h; exact .inr (.inl rfl)))
                have HOB := Lib.hid hob2
                clear hown2 hb2 hg2 hob2 hal2 hgt2 hgk2 hmm hm2 hgkt hmt hgt3 hgk3 hm3 hch3 hst3 hpm4 hg4 hgt4)))
      go_ret
      have hKl2 : K'.length = ms'.length := HP'.out.len
      refine ⟨ms'.length, _, K' ++ [⟨g, 0, none⟩], ms' ++ [⟨ps, f.sts⟩], rfl, HZ.out, HPf.out, ?_, ?_, by rw [← hKl2]; simp, fun _ => by simp [hKl2], fun y hy => ?_, HC4.out, ?_⟩
      · obtain ⟨E, hE⟩ := HE.out; exact ⟨E ++ [⟨g, 0, none⟩], by rw [hE, List.append_assoc]⟩
      · obtain ⟨F, hF⟩ := HF.out; exact ⟨F ++ [⟨ps, f.sts⟩], by rw [hF, List.append_assoc]⟩
      · rcases List.mem_append.1 hy with h | h
        · rcases HQ.out y h with h' | ⟨k2, f2, h1, h2⟩
          · exact .inl h'
          · exact .inr ⟨k2, f2, h1, by omega⟩
        · simp at h; subst h
          exact .inr ⟨_, f, HR.out, Nat.le_refl _⟩
      · rcases HOB.out with h | h
        · rw [h]
          exact HV.out
        · refine .inr fun y hy => ?_
          rw [hy] at h
          cases h
          simp
          omega
    · have hk1 : ((k : Int) != 0) = true := by rw [bne_iff_ne]; omega
      have c1a := cell_alloc c1 (Obj.cells #[Value.slice none 0 0, Value.slice none 0 0] 76)
      clear c1
      go_enter Try.func83, Try.ntmps83
      go_wp2_with fail
      clear c1a hlook ck
      go_loopw [9] (fun i wr => ∃ j : Nat, j ≤ f.len ∧ i = .int .i64 j ∧ Hid (LInv w0 S X B gk ga gt m v K ms qs f w wr j)) (fun i _ => f.len - (intOf i).toNat)
      case atStart => exact ⟨0, Nat.zero_le _, rfl, HL0⟩
      case round =>
        clear HL0
        obtain ⟨j, hj, rfl, HL2⟩ := hrel
        obtain ⟨P, T, v', K', ms', ps, hM, hP, hE, hF, hn, hoP, hoT, hps, hPT, hq, hch, hv, hvn⟩ := HL2.out
        have hst : Stay w0 wr := HS0.out.trans (hch.stay HM.out.exc)
        have HLEN := Lib.hid (length_any NoX g k (hsh k f) f.sts qs wr (HSH.out.move (hst.move NoX)) hk0)
        have hfl : f.sts.length = f.len := Tops.sts_length f
        have HM' := Lib.hid hM
        have HP' := Lib.hid hP
        have HE := Lib.hid hE
        have HF := Lib.hid hF
        have HN := Lib.hid hn
        have HOP := Lib.hid hoP
        have HOT := Lib.hid hoT
        have HPSS := Lib.hid hps
        have HPT := Lib.hid hPT
        have HQ := Lib.hid hq
        have HCH := Lib.hid hch
        have HV := Lib.hid hv
        have HVN := Lib.hid hvn
        have HST := Lib.hid hst
        clear hM hP hE hF hn hoP hoT hps hPT hq hch hv hvn hst HL2
        go_wp2_with fail
        refine HLEN.out.mono ?_
        rintro e w1 ⟨rfl, rfl⟩
        by_cases hlt : j < f.len
        · have hlt' : (j : Int) < ((f.sts.length : Nat) : Int) := by omega
          have hqs : qs.length = f.len := HSUB.out.length
          obtain ⟨q, hq⟩ : ∃ q, qs[j]? = some q := ⟨_, List.getElem?_eq_getElem (by omega)⟩
          obtain ⟨s, k', a, hat, hrq⟩ := HSUB.out.at_ _ _ _ _ hq
          have hs := (Tops.at_hs f j s k' a hat).2
          have hasz := Tops.at_size hat
          have HRQ0 := Lib.hid hrq
          have HQJ := Lib.hid hq
          have HAT := Lib.hid hat
          have HSJ := Lib.hid hs
          clear hq hat hrq hs
          go_wp2_with fail
          refine wp_region_scht (fun w' => w'.heap[w.heap.size]? = some (.cells #[P, T] 76 (0, 0)) ∧ w'.heap[ga]? = some (.cells #[addFn gk ga gt] 120 (0, 0))) (.take 0 <| .take 1 <| .take 2 <| .take 3 <| .take 4 <| .take 9 <| .take 10 <| .take 11 <| .take 12 <| .step 5 <| .step 6 <| .step 7 <| .step 8 <| .take 16 <| .step 13 <| .step 14 <| .step 15 <| .step 17 <| .step 18 <| .step 19 .done) (by kernel_rfl) (by kernel_rfl) ⟨HN.out, HM'.out.ha⟩ ?_
          repeat
            apply AlongT.take rfl rfl
            · intro w' hw'
              have x0 := cell_of hw'.1 0
              have x1 := cell_of hw'.1 1
              have x2 := cell_of hw'.2 0
              simp at x0 x1 x2
              go_simp
              with_reducible rfl
            try simp only [Act.put, List.getElem_toArray, List.getElem_cons_succ, List.getElem_cons_zero, List.setIfInBounds_toArray, List.set_cons_zero, List.set_cons_succ]
          have hgnl : w.heap.size < wr.heap.size := (Array.getElem?_eq_some_iff.1 HN.out).1
          have hqS : q ∈ S := HCL.out.kid HSH.out HPS.out (List.mem_of_getElem? HQJ.out)
          have hsrta : a.srt := Tops.at_srt HSRT.out HAT.out
          refine AlongT.step rfl rfl (fun Kc hK => ?_)
          go_simp
          refine (getParent_any NoX g k j (hsh k f) f.sts qs q wr.drew (HSH.out.move (HST.out.drew.move NoX)) HQJ.out).mono ?_
          rintro e w5 ⟨rfl, rfl⟩
          refine hK _ _ ⟨HN.out, HM'.out.ha⟩ ?_
          clear hK
          try simp only [Act.put, List.getElem_toArray, List.getElem_cons_succ, List.getElem_cons_zero, List.setIfInBounds_toArray, List.set_cons_zero, List.set_cons_succ]
          refine AlongT.step rfl rfl (fun Kc hK => ?_)
          unfold addFn
          go_simp
          refine (HI.out w0 S (Use X P T) B gk ga gt m v' K' ms' q k' a wr.drew (by omega) HM'.out.drew HP'.out (fun y hy => ?_) HST.out.drew HRQ0.out (Tops.at_wf HW.out.2 HAT.out) hsrta hqS HCL.out hS1 (by show B ≤ wr.heap.size; omega)).mono ?_
          · show y < wr.heap.size
            rcases hy with h | h | h
            · have := HX.out y h; omega
            · exact (HOP.out.lt y h).2
            · exact (HOT.out.lt y h).2
          rintro e w6 ⟨x, v6, K6, ms6, rfl, hM6, hP6, ⟨E6, hE6⟩, ⟨F6, hF6⟩, hx6, hlast6, hq6, hch6, hv6⟩
          have hst6 : Stay wr w6 := (Stay.refl wr).drew.trans (hch6.stay HM'.out.drew.exc)
          have HM6 := Lib.hid hM6
          have hne : ¬ Exc gt m v' w.heap.size := by
            rintro (h | h | h)
            · have := HM'.out.ht; rw [← h, HN.out] at this; cases this
            · obtain ⟨es, clock, hmm, _⟩ := HM'.out.map; rw [← h, HN.out] at hmm; cases hmm
            · exact HVN.out h
          have hn6 : w6.heap[w.heap.size]? = some (.cells #[P, T] 76 (0, 0)) := hch6.heap HN.out hne
          have hoP6 := own_stay HOP.out hst6
          have hoT6 := own_stay HOT.out hst6
          have hwl6 : w.heap.size < w6.heap.size := (Array.getElem?_eq_some_iff.1 hn6).1
          have hch06 : Chg (Exc gt m v) w w6 := HCH.out.trans (show Chg (Exc gt m v') wr w6 from (Chg.refl (Exc gt m v') wr).drew.trans hch6 (fun y hy h => h)) (fun y hy h => by
            rcases h with h | h | h
            · exact .inl h
            · exact .inr (.inl h)
            · rcases HV.out with h' | h'
              · rw [h'] at h; exact .inr (.inr h)
              · have := h' y h; omega)
          have hq06 : ∀ q ∈ K6, q ∈ K ∨ ∃ k' f', Rep w0 NoX q k' f' ∧ f'.size < f.size := fun y hy => by
            rcases hq6 y hy with h | ⟨k2, f2, h1, h2⟩
            · exact HQ.out y h
            · exact .inr ⟨k2, f2, h1, by omega⟩
          have hv06 : v6.ownBlock = v.ownBlock ∨ ∀ y, v6.ownBlock = some y → w.heap.size ≤ y := by
            rcases hv6 with h | h
            · rw [h]; exact HV.out
            · refine .inr fun y hy => ?_
              have := h y hy
              have h2 : wr.drew.heap.size = wr.heap.size := rfl
              omega
          have hvn6 : v6.ownBlock ≠ some w.heap.size := by
            rcases hv6 with h | h
            · rw [h]; exact HVN.out
            · intro hy
              have := h _ hy
              have h2 : wr.drew.heap.size = wr.heap.size := rfl
              omega
          have hps6 : ∀ i, i < j → ∃ (x : Nat) (q : Addr), ps[i]? = some (x : Int) ∧ K6[x]? = some q ∧ qs[i]? = some q := fun i hi => by
            obtain ⟨x', q', h1, h2, h3⟩ := HPSS.out i hi
            exact ⟨x', q', h1, by rw [hE6, List.getElem?_append_left (List.getElem?_eq_some_iff.1 h2).1]; exact h2, h3⟩
          have hEE : ∃ E, K6 = K ++ E := by obtain ⟨E, hE⟩ := HE.out; exact ⟨E ++ E6, by rw [hE6, hE, List.append_assoc]⟩
          have hFF : ∃ F, ms6 = ms ++ F := by obtain ⟨F, hF⟩ := HF.out; exact ⟨F ++ F6, by rw [hF6, hF, List.append_assoc]⟩
          have HSTEP := Lib.hid (fun (w8 w10 : World) (P8 T10 : Value) => linv_step (w8 := w8) (w10 := w10) (P8 := P8) (T10 := T10) (f := f) (qs := qs) hM6 hP6 hEE hFF hn6 hoP6 hoT6 hps6 HPT.out hq06 hch06 hv06 hvn6 hx6 HQJ.out HSJ.out hwl6)
          have HP6 := Lib.hid hoP6
          have HT6 := Lib.hid hoT6
          have HN6 := Lib.hid hn6
          have HCH6 := Lib.hid hch06
          have hs06 : Stay w0 w6 := HST.out.trans hst6
          have HS06 := Lib.hid hs06
          have hpsl : ps.length = j := by have := HOP.out.1; simpa [ints] using this
          clear hM6 hP6 hEE hFF hn6 hoP6 hoT6 hps6 hq06 hch06 hv06 hvn6 hx6 hst6 hE6 hF6 hlast6 hq6 hch6 hv6 hne hs06
          refine hK _ _ ⟨HN6.out, HM6.out.ha⟩ ?_
          clear hK
          try simp only [Act.put, List.getElem_toArray, List.getElem_cons_succ, List.getElem_cons_zero, List.setIfInBounds_toArray, List.set_cons_zero, List.set_cons_succ]
          refine AlongT.step rfl rfl (fun Kc hK => ?_)
          go_simp
          refine hK _ _ ⟨(heap_old' hwl6).trans HN6.out, (heap_old' (Array.getElem?_eq_some_iff.1 HM6.out.ha).1).trans HM6.out.ha⟩ ?_
          clear hK
          try simp only [Act.put, List.getElem_toArray, List.getElem_cons_succ, List.getElem_cons_zero, List.setIfInBounds_toArray, List.set_cons_zero, List.set_cons_succ]
          refine AlongT.step rfl rfl (fun Kc hK => ?_)
          refine wp_append_bel (.tmp 32) (.tmp 38) 22 rfl (w6.alloc (Obj.cells #[Value.int .i64 (x : Int)] 3)) (w.heap.size + 1) 3 j0 _ 1 8 Try.underlying22 hj0 hy0 hy1 hy2 rfl (by omega) P j (ints ps) rfl (HP6.out.alloc _) _ _ 1 1 _ rfl (reads_new (by simp) rfl) (by intro u hu; simp at hu; subst hu; rfl) (by omega) (by omega) (Below.refl _ _) (by simp; omega) ?_
          intro P8 w8 hP8 hb8 hg8 hob8
          obtain ⟨A8, c8, rfl, _⟩ := own_slice hP8
          have s6a : (w6.alloc (Obj.cells #[Value.int .i64 (x : Int)] 3)).heap.size = w6.heap.size + 1 := by simp
          rw [s6a] at hob8
          have hs8 := hg8.size
          rw [s6a] at hs8
          have hn8 : w8.heap[w.heap.size]? = some (.cells #[P, T] 76 (0, 0)) := by
            rw [hg8.block _ (by omega) (fun h => by have := (own3_at HP6.out h.symm).2; omega)]
            exact (heap_old' hwl6).trans HN6.out
          have ha8 : w8.heap[ga]? = some (.cells #[addFn gk ga gt] 120 (0, 0)) := by
            have hl := (Array.getElem?_eq_some_iff.1 HM6.out.ha).1
            rw [hg8.block _ (by omega) (own_cells_ne HP6.out HM6.out.ha (by decide))]
            exact (heap_old' hl).trans HM6.out.ha
          have hT8 := World.ownsRow.kept (HT6.out.alloc (Obj.cells #[Value.int .i64 (x : Int)] 3)) hg8 (by
            rcases HPT.out with h | h
            · cases hT : T.ownBlock with
              | none => exact .inl rfl
              | some y => right; rw [h]; exact fun e => by cases e
            · exact .inr (Ne.symm h))
          have hch8 : Chg (Exc gt m v) w w8 := (HCH6.out.trans (Chg.of_below (X := NoX) (below_alloc' (Below.refl _ _) _)) (fun _ _ h => by cases h)).trans (Chg.of_grown hg8) (fun y hy h => by have := (own3_at HP6.out h.symm).2; omega)
          have hst8 : Stay w0 w8 := HS0.out.trans (hch8.stay HM.out.exc)
          have HSH8 := Lib.hid (HSH.out.move (hst8.move NoX))
          have HN8 := Lib.hid hn8
          have HA8 := Lib.hid ha8
          have HT8 := Lib.hid hT8
          have HP8 := Lib.hid hP8
          have HG8 := Lib.hid hg8
          have HOB8 := Lib.hid hob8
          clear hn8 ha8 hT8 hP8 hg8 hob8 hch8 hst8 hb8 s6a
          refine hK _ _ ⟨HN8.out, HA8.out⟩ ?_
          clear hK
          try simp only [Act.put, List.getElem_toArray, List.getElem_cons_succ, List.getElem_cons_zero, List.setIfInBounds_toArray, List.set_cons_zero, List.set_cons_succ]
          apply AlongT.take rfl rfl
          · intro w' hw'
            go_simp
            with_reducible rfl
          try simp only [Act.put, List.getElem_toArray, List.getElem_cons_succ, List.getElem_cons_zero, List.setIfInBounds_toArray, List.set_cons_zero, List.set_cons_succ]
          refine AlongT.step rfl rfl (fun Kc hK => ?_)
          go_simp
          refine (getRS_any NoX g k j (hsh k f) s f.sts qs w8 HSH8.out HSJ.out).mono ?_
          rintro e w9 ⟨rfl, rfl⟩
          refine hK _ _ ⟨HN8.out, HA8.out⟩ ?_
          clear hK
          try simp only [Act.put, List.getElem_toArray, List.getElem_cons_succ, List.getElem_cons_zero, List.setIfInBounds_toArray, List.set_cons_zero, List.set_cons_succ]
          refine AlongT.step rfl rfl (fun Kc hK => ?_)
          go_simp
          refine hK _ _ ⟨(heap_old' (Array.getElem?_eq_some_iff.1 HN8.out).1).trans HN8.out, (heap_old' (Array.getElem?_eq_some_iff.1 HA8.out).1).trans HA8.out⟩ ?_
          clear hK
          try simp only [Act.put, List.getElem_toArray, List.getElem_cons_succ, List.getElem_cons_zero, List.setIfInBounds_toArray, List.set_cons_zero, List.set_cons_succ]
          refine AlongT.step rfl rfl (fun Kc hK => ?_)
          refine wp_append_bel (.tmp 41) (.tmp 45) 22 rfl (w8.alloc (Obj.cells #[Value.int .i64 s] 3)) (w.heap.size + 1) 3 j0 _ 1 8 Try.underlying22 hj0 hy0 hy1 hy2 rfl (by omega) T j (ints (f.sts.take j)) rfl (HT8.out.alloc _) _ _ 1 1 _ rfl (reads_new (by simp) rfl) (by intro u hu; simp at hu; subst hu; rfl) (by omega) (by omega) (Below.refl _ _) (by simp; omega) ?_
          intro T10 w10 hT10 hb10 hg10 hob10
          obtain ⟨A10, c10, rfl, _⟩ := own_slice hT10
          have s8a : (w8.alloc (Obj.cells #[Value.int .i64 s] 3)).heap.size = w8.heap.size + 1 := by simp
          rw [s8a] at hob10
          have hs10 := hg10.size
          rw [s8a] at hs10
          have hn10 : w10.heap[w.heap.size]? = some (.cells #[P, T] 76 (0, 0)) := by
            rw [hg10.block _ (by omega) (fun h => by have := (own3_at HT8.out h.symm).2; omega)]
            exact (heap_old' (by omega)).trans HN8.out
          have ha10 : w10.heap[ga]? = some (.cells #[addFn gk ga gt] 120 (0, 0)) := by
            have hl := (Array.getElem?_eq_some_iff.1 HA8.out).1
            rw [hg10.block _ (by omega) (own_cells_ne HT8.out HA8.out (by decide))]
            exact (heap_old' hl).trans HA8.out
          have HFIN := Lib.hid (HSTEP.out w8 w10 _ _ HP8.out HG8.out HOB8.out hT10 hg10 hob10)
          refine hK _ _ ⟨hn10, ha10⟩ ?_
          have HN10 := Lib.hid hn10
          clear hK hn10 ha10 hT10 hg10 hob10 hb10 s8a
          try simp only [Act.put, List.getElem_toArray, List.getElem_cons_succ, List.getElem_cons_zero, List.setIfInBounds_toArray, List.set_cons_zero, List.set_cons_succ]
          have d0 := cell_of HN10.out 0
          have fz0 : w10.frozen? ⟨w.heap.size, 0, none⟩ = false := Blk.frozen HN10.out 0
          have d1 := cell_of (Blk.set_ HN10.out 0 (.slice A8 (j + 1) c8)) 1
          have fz1 : (w10.setCell ⟨w.heap.size, 0, none⟩ (.slice A8 (j + 1) c8)).frozen? ⟨w.heap.size, 1, none⟩ = false := Blk.frozen (Blk.set_ HN10.out 0 (.slice A8 (j + 1) c8)) 1
          simp at d0 d1
          refine AlongT.last (by kernel_rfl) rfl rfl rfl (fun Kc hK => ?_)
          go_simp
          refine hK _ _ ?_
          clear hK
          try simp only [Act.put, List.getElem_toArray, List.getElem_cons_succ, List.getElem_cons_zero, List.setIfInBounds_toArray, List.set_cons_zero, List.set_cons_succ]
          refine AlongT.last (by kernel_rfl) rfl rfl rfl (fun Kc hK => ?_)
          go_simp
          refine hK _ _ ?_
          clear hK
          try simp only [Act.put, List.getElem_toArray, List.getElem_cons_succ, List.getElem_cons_zero, List.setIfInBounds_toArray, List.set_cons_zero, List.set_cons_succ]
          refine AlongT.last (by kernel_rfl) rfl rfl rfl (fun Kc hK => ?_)
          go_simp
          refine hK _ _ ?_
          clear hK
          try simp only [Act.put, List.getElem_toArray, List.getElem_cons_succ, List.getElem_cons_zero, List.setIfInBounds_toArray, List.set_cons_zero, List.set_cons_succ]
          refine AlongT.done (NoPanic.normal ?_)
          go_wp2_with fail
          exact ⟨⟨j + 1, by omega, by go_num, HFIN⟩, by simp [intOf]; omega⟩
        · have hjf : j = f.len := by omega
          subst hjf
          have hlt' : ¬ ((f.len : Nat) : Int) < ((f.sts.length : Nat) : Int) := by omega
          have hpsl : ps.length = f.len := by have := HOP.out.1; simpa [ints] using this
          obtain ⟨AP, cP, rfl, _⟩ := own_slice HOP.out
          obtain ⟨AT, cT, rfl, _⟩ := own_slice HOT.out
          obtain ⟨xs, hxs, hxr⟩ := HM'.out.tbl
          have HXR := Lib.hid hxr
          have HXS := Lib.hid hxs
          obtain ⟨i1, hi1, hq0, hq1, hq2⟩ := info_parts antlr_info
          have ct := cell_of HM'.out.ht 0
          have cn0 := cell_of HN.out 0
          have cn1 := cell_of HN.out 1
          simp at ct cn0 cn1
          have hwrl := (Array.getElem?_eq_some_iff.1 HN.out).1
          have hmsl : ms'.length ≤ 1000 := by rw [← HP'.out.len]; exact Nat.le_trans (nodup_sub _ _ HP'.out.nd HP'.out.sub) hS1
          have hpn : (⟨g, 0, none⟩ : Addr) ∉ K' := fun hy => by
            rcases HQ.out _ hy with h | ⟨k2, f2, h1, h2⟩
            · exact hmem h
            · obtain ⟨_, rfl⟩ := h1.unique HR.out
              omega
          have hfull : f.sts.take f.len = f.sts := by rw [← Tops.sts_length]; exact List.take_length
          have HOTf := Lib.hid (show wr.ownsRow (w.heap.size + 1) 3 1 (.slice AT f.len cT) f.len (ints f.sts) by have := HOT.out; rw [hfull] at this; exact this)
          have HPf := Lib.hid (zp_snoc HP'.out hpn HPS.out hS1 HR.out HSUB.out HSRT.out hpsl hfl1 HPSS.out)
          have HALO := Lib.hid (World.ownsRow.alloc HXS.out (Obj.cells #[.slice AP f.len cP, .slice AT f.len cT] 76))
          clear hxs hxr hfull
          go_wp2_with (first
            | (at_builtin
               go_must (refine wpList_append_bel rfl (.tmp 49) (.tmp 51) _ rfl (wr.alloc (Obj.cells #[.slice AP f.len cP, .slice AT f.len cT] 76)) B 76 i1 _ 2 48 Try.underlying59 hi1 hq0 hq1 hq2 rfl (by omega) v' ms'.length xs rfl HALO.out _ _ 1 1 _ rfl (reads_new (by simp) rfl) (by intro u hu; simp at hu; rcases hu with rfl | rfl <;> rfl) (by omega) (by omega) (Below.refl _ _) (by simp; omega) ?_)
               intro v2 w2 hown2 hb2 hg2 hob2
               go_must (
                    obtain ⟨A2, c2, rfl, _⟩ := own_slice hown2
                    have hal2 : ∀ {y : Nat} {o : Obj}, wr.heap[y]? = some o → (∀ cs, o ≠ .cells cs 76 (0, 0)) → w2.heap[y]? = some o := fun {y} {o} hy ho => by
                      rw [hg2.block y (Array.getElem?_eq_some_iff.1 ((heap_old' (Array.getElem?_eq_some_iff.1 hy).1).trans hy)).1 (fun e => by
                        rcases HXS.out.2 with ⟨h, _⟩ | ⟨g', cap, cur, h, _, hg', _⟩
                        · rw [h] at e; cases e
                        · rw [h] at e; cases e; rw [hg'] at hy; cases hy; exact ho _ rfl)]
                      exact (heap_old' (Array.getElem?_eq_some_iff.1 hy).1).trans hy
                    have hgt2 := hal2 HM'.out.ht (fun cs e => by injection e with _ e; cases e)
                    have hgk2 := hal2 HM'.out.hk (fun cs e => by injection e with _ e; cases e)
                    obtain ⟨es, clock, hmm, hmf⟩ := HM'.out.map
                    have hm2 := hal2 hmm (fun cs e => by cases e)
                    have hgkt : gk ≠ gt := fun e => by rw [e, hgt2] at hgk2; cases hgk2
                    have hmt : m ≠ gt := fun e => by rw [e, hgt2] at hm2; cases hm2
                    have ct2 := cell_of hgt2 0
                    have fz2 : w2.frozen? ⟨gt, 0, none⟩ = false := Blk.frozen hgt2 0
                    have hgt3 : (w2.setCell ⟨gt, 0, none⟩ (.slice A2 (ms'.length + 1) c2)).heap[gt]? = some (.cells #[.slice A2 (ms'.length + 1) c2] 59 (0, 0)) := by
                      have := Blk.set_ hgt2 0 (.slice A2 (ms'.length + 1) c2)
                      unfold Blk at this
                      simpa using this
                    have hgk3 : (w2.setCell ⟨gt, 0, none⟩ (.slice A2 (ms'.length + 1) c2)).heap[gk]? = some (.cells #[.map (some m)] 119 (0, 0)) := by
                      rw [Below.heap_setCell w2 ⟨gt, 0, none⟩ _ gk hgkt]; exact hgk2
                    have hm3 : (w2.setCell ⟨gt, 0, none⟩ (.slice A2 (ms'.length + 1) c2)).heap[m]? = some (.map es clock) := by
                      rw [Below.heap_setCell w2 ⟨gt, 0, none⟩ _ m hmt]; exact hm2
                    have hch3 : Chg (Exc gt m v) w (w2.setCell ⟨gt, 0, none⟩ (.slice A2 (ms'.length + 1) c2)) := by
                      have e1 : Chg (fun y => y = gt) w2 (w2.setCell ⟨gt, 0, none⟩ (.slice A2 (ms'.length + 1) c2)) := ⟨by first | rfl | simp, by first | rfl | simp, by first | rfl | simp, by simp, fun y _ hy => Below.heap_setCell w2 ⟨gt, 0, none⟩ _ y hy⟩
                      refine (((HCH.out.trans (Chg.of_below (X := NoX) (below_alloc' (Below.refl _ _) _)) (fun _ _ h => by cases h)).trans (Chg.of_grown hg2) (fun y hy h => ?_)).trans e1 (fun y _ h => .inl h))
                      rcases HV.out with h' | h'
                      · rw [h'] at h; exact .inr (.inr h.symm)
                      · have := h' y h.symm; omega
                    have hst3 : Stay w0 (w2.setCell ⟨gt, 0, none⟩ (.slice A2 (ms'.length + 1) c2)) := HS0.out.trans (hch3.stay HM.out.exc)
                    obtain ⟨w4, hmu, hpm4, hg4, hs4⟩ := run_mapUpdate_ptr (t := 119) Try.underlying119 (w := w2.setCell ⟨gt, 0, none⟩ (.slice A2 (ms'.length + 1) c2)) ⟨es, clock, hm3, hmf⟩ (fun x hx => (HP'.out.keys x hx).stay hst3) ⟨g, 0, none⟩ (HR.out.stay hst3).atCtx ((KD_look K' _).1 hpn) (.int .i64 ((ms'.length : Nat) : Int))
                    have hgt4 : w4.heap[gt]? = some (.cells #[.slice A2 (ms'.length + 1) c2] 59 (0, 0)) := by
                      rw [hg4.block gt (Array.getElem?_eq_some_iff.1 hgt3).1 (fun e => hmt (by cases e; rfl))]; exact hgt3
                    have ck3 := cell_of hgk3 0
                    have ct3 := cell_of hgt3 0
                    have ct4 := cell_of hgt4 0
                    simp at ct2 ck3 ct3 ct4
                    have hsub1 : IntKind.i64.wrap (((ms'.length + 1 : Nat) : Int) - 1) = ((ms'.length : Nat) : Int) := by rw [IntKind.wrap_i64]; omega
                    rw [← HP'.out.len] at hpm4
                    rw [← KD_snoc] at hpm4
                    have HZ := Lib.hid (zmem_snoc HM'.out HXS.out HXR.out HX.out HOP.out HOTf.out hpsl (Tops.sts_length f) hown2 hg2 hpm4 hg4)
                    have HC4 := Lib.hid (hch3.trans (Chg.of_grown hg4) (fun y hy h => by cases h; exact .inr (.inl rfl)))
                    have HOB := Lib.hid hob2
                    clear hown2 hb2 hg2 hob2 hal2 hgt2 hgk2 hmm hm2 hgkt hmt hgt3 hgk3 hm3 hch3 hst3 hpm4 hg4 hgt4)))
          go_ret
          have hKl2 : K'.length = ms'.length := HP'.out.len
          refine ⟨ms'.length, _, K' ++ [⟨g, 0, none⟩], ms' ++ [⟨ps, f.sts⟩], rfl, HZ.out, HPf.out, ?_, ?_, by rw [← hKl2]; simp, fun _ => by simp [hKl2], fun y hy => ?_, HC4.out, ?_⟩
          · obtain ⟨E, hE⟩ := HE.out; exact ⟨E ++ [⟨g, 0, none⟩], by rw [hE, List.append_assoc]⟩
          · obtain ⟨F, hF⟩ := HF.out; exact ⟨F ++ [⟨ps, f.sts⟩], by rw [hF, List.append_assoc]⟩
          · rcases List.mem_append.1 hy with h | h
            · rcases HQ.out y h with h' | ⟨k2, f2, h1, h2⟩
              · exact .inl h'
              · exact .inr ⟨k2, f2, h1, by omega⟩
            · simp at h; subst h
              exact .inr ⟨_, f, HR.out, Nat.le_refl _⟩
          · rcases HOB.out with h | h
            · rw [h]
              exact HV.out
            · refine .inr fun y hy => ?_
              rw [hy] at h
              cases h
              simp
              omega
end Go.Proofs.Ytcbabfndfikejaa
namespace Go.Proofs.Ytcbabfndfikejaa
open Go.RowKit
set_option linter.unusedSimpArgs false
theorem add_all (n : Nat) : AddTo n := by
  induction n with
  | zero => intro w0 S X B gk ga gt m v K ms p k f w h; exact absurd h (by omega)
  | succ n ih => exact add_step n ih
theorem TblX.tbl {w : World} {X : Nat → Prop} {B : Nat} {v : Value} {ms : List Nd} (h : TblX w X B v ms) : ∃ A c, v = .slice A ms.length c ∧ Tbl w w.heap.size A ms := by
  obtain ⟨xs, h1, h2⟩ := h
  obtain ⟨A, c, rfl, hr⟩ := own_slice h1
  refine ⟨A, c, rfl, xs, hr, fun i nd hi => ?_⟩
  obtain ⟨A1, c1, A2, c2, e1, e2, r1, r2⟩ := h2 i nd hi
  exact ⟨_, _, e1, e2, A1, c1, A2, c2, rfl, rfl, r1.reads, r2.reads⟩
def TabPost (S : List Addr) (f : Tops) (w : World) (e : Ending) (w' : World) : Prop := ∃ A c ms, e = .returned (.slice A ms.length c) ∧ Tbl w' w'.heap.size A ms ∧ TG ms ∧ 0 < ms.length ∧ ms.length ≤ S.length ∧ tr ms (ms.length - 1) = (kindOf f.len, nrm f) ∧ Below w.heap.size w w'
theorem mk119 (w : World) : (Instr.makeMap 119 none).run Try.prog w = .ok (.map (some w.heap.size)) (w.alloc (.map #[] 0)) := rfl
set_option maxHeartbeats 1000000 in
theorem zzTable_any (S : List Addr) (p : Addr) (k : Nat) (f : Tops) (w : World) (hR : Rep w NoX p k f) (hW : Wf k f) (hsrt : f.srt) (hpS : p ∈ S) (hCl : Cl w S) (hS : S.length ≤ 1000) :
    Calls Try.prog 58 #[.pointer (some p)] w (TabPost S f w) := by
  have hmk := mk119
  have HR := Lib.hid hR
  have HCL := Lib.hid hCl
  clear hR hCl
  obtain ⟨W0, hW0⟩ : ∃ W0, W0 = ((((w.alloc (Obj.cells #[Value.slice none 0 0] 59)).alloc (Obj.map #[] 0)).alloc (Obj.cells #[Value.map (some (w.heap.size + 1))] 119)).alloc (Obj.cells #[Value.nilFunc] 120)) := ⟨_, rfl⟩
  have hb0 : Below w.heap.size w W0 := by rw [hW0]; exact below_alloc' (below_alloc' (below_alloc' (below_alloc' (Below.refl _ _) _) _) _) _
  have h0 : W0.heap[w.heap.size]? = some (.cells #[.slice none 0 0] 59 (0, 0)) := by
    rw [hW0]; exact (heap_old' (by simp; try omega)).trans ((heap_old' (by simp; try omega)).trans ((heap_old' (by simp; try omega)).trans (heap_new' rfl)))
  have h1 : W0.heap[w.heap.size + 1]? = some (.map #[] 0) := by
    rw [hW0]; exact (heap_old' (by simp; try omega)).trans ((heap_old' (by simp; try omega)).trans (heap_new' (by simp; try omega)))
  have h2 : W0.heap[w.heap.size + 2]? = some (.cells #[.map (some (w.heap.size + 1))] 119 (0, 0)) := by
    rw [hW0]; exact (heap_old' (by simp; try omega)).trans (heap_new' (by simp; try omega))
  have h3 : W0.heap[w.heap.size + 1 + 1 + 1]? = some (.cells #[.nilFunc] 120 (0, 0)) := by
    rw [hW0]; exact heap_new' (by simp)
  have hsz : W0.heap.size = w.heap.size + 4 := by rw [hW0]; simp
  have c3 := cell_of h3 0
  have fz3 : W0.frozen? ⟨w.heap.size + 1 + 1 + 1, 0, none⟩ = false := Blk.frozen h3 0
  simp at c3
  obtain ⟨W1, hW1⟩ : ∃ W1, W1 = W0.setCell ⟨w.heap.size + 1 + 1 + 1, 0, none⟩ (.func (.func 83) #[] #[.pointer (some ⟨w.heap.size + 1 + 1, 0, none⟩), .pointer (some ⟨w.heap.size + 1 + 1 + 1, 0, none⟩), .pointer (some ⟨w.heap.size, 0, none⟩)]) := ⟨_, rfl⟩
  have k0 : W1.heap[w.heap.size]? = some (.cells #[.slice none 0 0] 59 (0, 0)) := by rw [hW1, Below.heap_setCell W0 _ _ _ (by simp; omega)]; exact h0
  have k1 : W1.heap[w.heap.size + 1]? = some (.map #[] 0) := by rw [hW1, Below.heap_setCell W0 _ _ _ (by simp)]; exact h1
  have k2 : W1.heap[w.heap.size + 1 + 1]? = some (.cells #[.map (some (w.heap.size + 1))] 119 (0, 0)) := by rw [hW1, Below.heap_setCell W0 _ _ _ (by simp)]; exact h2
  have k3 : W1.heap[w.heap.size + 1 + 1 + 1]? = some (.cells #[addFn (w.heap.size + 1 + 1) (w.heap.size + 1 + 1 + 1) w.heap.size] 120 (0, 0)) := by
    have := Blk.set_ h3 0 (addFn (w.heap.size + 1 + 1) (w.heap.size + 1 + 1 + 1) w.heap.size)
    unfold Blk at this
    rw [hW1]
    simp at this
    exact this
  have hb1 : Below w.heap.size w W1 := by rw [hW1]; exact hb0.setCell (p := ⟨w.heap.size + 1 + 1 + 1, 0, none⟩) (by simp; omega) _
  have hsz1 : W1.heap.size = w.heap.size + 4 := by rw [hW1]; simpa using hsz
  have cf := cell_of k3 0
  have hZM : ZMem W1 NoX w.heap.size (w.heap.size + 1 + 1) (w.heap.size + 1 + 1 + 1) w.heap.size (w.heap.size + 1) (.slice none 0 0) [] [] :=
    ⟨k2, k3, k0, ⟨[], World.ownsRow_nil _ _ _ _, fun i nd hi => by simp at hi⟩, ⟨#[], 0, k1, rfl⟩⟩
  have hZP : ZP w S [] [] := ⟨rfl, List.nodup_nil, (fun q hq => by cases hq), (fun i nd hi => by simp at hi), (fun j q hj => by simp at hj)⟩
  have HC := Lib.hid (add_all (f.size + 1) w S NoX w.heap.size (w.heap.size + 1 + 1) (w.heap.size + 1 + 1 + 1) w.heap.size (w.heap.size + 1) (.slice none 0 0) [] [] p k f W1 (Nat.lt_succ_self _) hZM hZP (fun y hy => by cases hy) (Stay.of_below hb1) HR.out hW hsrt hpS HCL.out hS (by omega))
  have HB1 := Lib.hid hb1
  have hW0' := hW0.symm
  have hW1' := hW1.symm
  simp only [addFn] at cf
  simp at cf
  clear h0 h1 h2 h3 k0 k1 k2 k3 hZM hZP hb0 hb1 hW0 hW1
  go_enter Try.func58, Try.ntmps58
  go_wp2_with fail
  refine HC.out.mono ?_
  rintro e w2 ⟨i, v', K', ms', rfl, hM, hP, _, _, hi, hlast, _, hch, _⟩
  have hl := hlast (by simp)
  obtain ⟨A, c, rfl, htb⟩ := hM.tbl.tbl
  have ct := cell_of hM.ht 0
  simp at ct
  have HFIN : Hid (TabPost S f w (.returned (.slice A ms'.length c)) w2) := Lib.hid (by
    have hlen := hP.len
    refine ⟨A, c, ms', rfl, htb, hP.good, by omega, by rw [← hlen]; exact nodup_sub _ _ hP.nd hP.sub, ?_, ?_⟩
    · obtain ⟨k2, f2, h1, h2⟩ := hP.rep i p hi
      obtain ⟨_, rfl⟩ := h1.unique HR.out
      rw [show ms'.length - 1 = i by omega]
      exact h2
    · refine HB1.out.trans (hch.below (fun j hj => ?_) (by omega))
      rcases hj with h | h | h
      · omega
      · omega
      · cases h)
  clear hM hP hi hlast hch htb HC
  go_wp2_with fail
  go_ret
  exact HFIN.out
end Go.Proofs.Ytcbabfndfikejaa
namespace Go.Proofs.Ytcbabfndfikejaa
open Go.RowKit
/-- The addresses of what is below p. -/
def KidsX (w : World) (X : Nat → Prop) (p : Addr) (rs : List Addr) : Prop := ∃ g k h ss, p = ⟨g, 0, none⟩ ∧ Shape w X g k h ss rs
theorem KidsX.move {w w' : World} {X X' : Nat → Prop} {p : Addr} {rs : List Addr} (h : KidsX w X p rs) (hm : Move X X' w w') : KidsX w' X' p rs := by
  obtain ⟨g, k, h', ss, h1, h2⟩ := h
  exact ⟨g, k, h', ss, h1, h2.move hm⟩
/-- What is below p is among qs. -/
def KidIn (w : World) (X : Nat → Prop) (p : Addr) (qs : List Addr) : Prop := ∃ rs, KidsX w X p rs ∧ ∀ q ∈ rs, q ∈ qs
theorem KidIn.move {w w' : World} {X X' : Nat → Prop} {p : Addr} {qs : List Addr} (h : KidIn w X p qs) (hm : Move X X' w w') : KidIn w' X' p qs := by
  obtain ⟨rs, h1, h2⟩ := h
  exact ⟨rs, h1.move hm, h2⟩
theorem KidIn.stay {w w' : World} {X : Nat → Prop} {p : Addr} {qs : List Addr} (h : KidIn w X p qs) (hs : Stay w w') : KidIn w' X p qs := h.move (hs.move X)
theorem KidIn.more {w : World} {X : Nat → Prop} {p q : Addr} {qs : List Addr} (h : KidIn w X p qs) : KidIn w X p (qs ++ [q]) := by
  obtain ⟨rs, h1, h2⟩ := h
  exact ⟨rs, h1, fun x hx => List.mem_append_left _ (h2 x hx)⟩
theorem kids_empty {w : World} {X : Nat → Prop} {p : Addr} (h : Rep w X p 0 .nil) (qs : List Addr) : KidIn w X p qs := by
  obtain ⟨g, h1, rs, h2, h3⟩ := h
  have h3 : rs = [] := h3
  subst h3
  exact ⟨[], ⟨g, _, _, _, h1, h2⟩, by simp⟩
/-- A new choice is handed back, with what is below it; nothing that was there has turned. -/
def NewPostK (X : Nat → Prop) (k : Nat) (f : Tops) (rs : List Addr) (w : World) (e : Ending) (w' : World) : Prop := ∃ p, e = .returned (.pointer (some p)) ∧ Rep w' X p k f ∧ KidsX w' X p rs ∧ w.heap.size ≤ p.block ∧ Below w.heap.size w w'
theorem NewSingletonK_any (X : Nat → Prop) (p : Addr) (k : Nat) (f : Tops) (s : Int) (w : World) (hX : OldX X w) (h : Rep w X p k f) : Calls Try.prog 65 #[.pointer (some p), .int .i64 s] w (NewPostK X 1 (.cons s k f .nil) [p] w) := by
  obtain ⟨g, rfl, _⟩ := h.cell
  have H := Lib.hid h
  clear h
  go_enter Try.func65, Try.ntmps65
  go_wp2_with fail
  refine (calculateHash_any _ _ _ _ s _ (H.out.stay (Stay.of_below ((Below.refl _ _).alloc (Nat.le_refl _) _)))).mono ?_
  rintro e w' ⟨rfl, rfl⟩
  rw [← hsh_single]
  go_wp2_with fail
  go_ret
  have hs := H.out.stay (Stay.of_below ((Below.refl w.heap.size w).alloc (Nat.le_refl _) (Obj.cells #[.int .i64 (hsh 1 (.cons s k f .nil)), .int .i64 1, .pointer (some ⟨g, 0, none⟩), .int .i64 s, .slice none 0 0, .slice none 0 0] 97)))
  obtain ⟨g', he, qs, h1, h2⟩ := hs
  cases he
  have hshape : Shape (w.alloc (Obj.cells #[.int .i64 (hsh 1 (.cons s k f .nil)), .int .i64 1, .pointer (some ⟨g, 0, none⟩), .int .i64 s, .slice none 0 0, .slice none 0 0] 97)) X w.heap.size 1 (hsh 1 (.cons s k f .nil)) [s] [⟨g, 0, none⟩] := ⟨hX.new, rfl, .inr (.inl ⟨rfl, s, _, rfl, rfl, heap_alloc_new w _⟩)⟩
  exact ⟨_, rfl, ⟨w.heap.size, rfl, [⟨g, 0, none⟩], hshape, ⟨g, [], rfl, ⟨qs, h1, h2⟩, rfl⟩⟩, ⟨_, _, _, _, rfl, hshape⟩, Nat.le_refl _, (Below.refl _ _).alloc (Nat.le_refl _) _⟩
set_option maxHeartbeats 1000000 in
theorem NewArrayK_any (X : Nat → Prop) (A A' : Option Addr) (c c' : Nat) (f : Tops) (qs : List Addr) (w : World) (hX : OldX X w) (hp : Row w X 72 A f.len (ptrs qs)) (hq : Row w X 3 A' f.len (ints f.sts)) (hsub : Subs w X f qs) (hm : f.len ≤ 1000) :
    Calls Try.prog 66 #[.slice A f.len c, .slice A' f.len c'] w (NewPostK X 2 f qs w) := by
  have HS := Lib.hid hsub
  have HP := Lib.hid hp
  have HQ := Lib.hid hq
  have hql := Subs.length _ _ hsub
  have hpl : f.hs.length = f.len := f.hs_length
  have hsl : f.sts.length = f.len := f.sts_length
  have HQL := Lib.hid hql
  have HPL := Lib.hid hpl
  have HSL := Lib.hid hsl
  clear hsub hp hq hql hpl hsl
  go_enter Try.func66, Try.ntmps66
  go_wp2_with (go_at_call 47; refine (murmurInit_any _ _).mono ?_; rintro e w' ⟨rfl, rfl⟩)
  go_loop [5, 14] (fun h i => ∃ k : Nat, k ≤ f.len ∧ i = .int .i64 k ∧ h = .int .i64 (murL 1 (f.hs.take k))) (fun _ i => f.len - (intOf i).toNat)
  case atStart => exact ⟨0, Nat.zero_le _, rfl, rfl⟩
  case round =>
    obtain ⟨k, hk, rfl, rfl⟩ := hrel
    by_cases hlt : k < f.len
    · obtain ⟨b, off, u, rfl, _, hu, hc⟩ := HP.out.reads.at1 hlt
      obtain ⟨q, hqk, rfl⟩ := ptrs_at hu
      obtain ⟨k1, sub, hrep, hhs⟩ := subs_hash HS.out hqk
      have HR := Lib.hid hrep
      have HH := Lib.hid (take_snoc' f.hs k _ hhs)
      clear hu hqk hrep hhs
      go_wp2_with (first
        | (go_at_call 53; refine (Hash_any _ _ _ _ _ HR.out).mono ?_; rintro e w' ⟨rfl, rfl⟩)
        | (go_at_call 48; refine (murmurUpdate_any _ _ _).mono ?_; rintro e w' ⟨rfl, rfl⟩))
      go_round
      case rel => exact ⟨k + 1, by omega, by go_num, by rw [HH.out, murL_snoc]⟩
      case measure => simp [intOf]; omega
    · have hkn : k = f.len := by omega
      have HK := Lib.hid (show murL 1 (f.hs.take k) = murL 1 f.hs by rw [hkn, ← HPL.out, List.take_length])
      clear hkn
      rw [HK.out]
      go_wp2_with fail
      go_loop [5, 25] (fun h i => ∃ k : Nat, k ≤ f.len ∧ i = .int .i64 k ∧ h = .int .i64 (murL (murL 1 f.hs) (f.sts.take k))) (fun _ i => f.len - (intOf i).toNat)
      case atStart => exact ⟨0, Nat.zero_le _, rfl, rfl⟩
      case round =>
        obtain ⟨j, hj, rfl, rfl⟩ := hrel
        by_cases hlt2 : j < f.len
        · obtain ⟨b, off, u, rfl, _, hu, hc⟩ := HQ.out.reads.at1 hlt2
          obtain ⟨s, hs, rfl⟩ := ints_at hu
          have HH := Lib.hid (take_snoc' f.sts j _ hs)
          clear hu hs
          go_wp2_with (go_at_call 48; refine (murmurUpdate_any _ _ _).mono ?_; rintro e w' ⟨rfl, rfl⟩)
          go_round
          case rel => exact ⟨j + 1, by omega, by go_num, by rw [HH.out, murL_snoc]⟩
          case measure => simp [intOf]; omega
        · have hjn : j = f.len := by omega
          have HK2 := Lib.hid (show murL (murL 1 f.hs) (f.sts.take j) = murL (murL 1 f.hs) f.sts by rw [hjn, ← HSL.out, List.take_length])
          clear hjn
          rw [HK2.out]
          go_wp2_with (go_at_call 49; refine (murmurFinish_any _ _ _).mono ?_; rintro e w' ⟨rfl, rfl⟩)
          go_ret
          have st : ∀ o, Stay w (w.alloc o) := fun o => (Stay.refl w).alloc o
          have hshape : Shape (w.alloc (Obj.cells #[.int .i64 (murF (murL (murL 1 f.hs) f.sts) ((f.len : Int) * 2)), .int .i64 2, .pointer none, .int .i64 0, .slice A f.len c, .slice A' f.len c'] 97)) X w.heap.size 2 (hsh 2 f) f.sts qs := by
            refine ⟨hX.new, by rw [HQL.out, HSL.out], .inr (.inr ⟨rfl, A, c, A', c', ?_, ?_, ?_⟩)⟩
            · rw [hsh_array, HSL.out, Int.mul_comm 2]; exact heap_alloc_new w _
            · rw [HSL.out]; exact HP.out.stay (st _) (.inr (.inl rfl))
            · rw [HSL.out]; exact HQ.out.stay (st _) (.inr (.inr rfl))
          exact ⟨_, rfl, ⟨w.heap.size, rfl, qs, hshape, Subs.stay HS.out (st _)⟩, ⟨_, _, _, _, rfl, hshape⟩, Nat.le_refl _, (Below.refl _ _).alloc (Nat.le_refl _) _⟩
end Go.Proofs.Ytcbabfndfikejaa
