/- The walk of spec.Alike: it is equality of the trees that the nodes stand for. Condition: the tables' parents stand ahead. -/
import Derived.Test.YtcbabfndfikejaaEqW
import Derived.Test.YtcbabfndfikejaaDrawS
namespace Go.Proofs.Ytcbabfndfikejaa
open Go.RowKit
set_option linter.unusedSimpArgs false

/-- the choice that a node stands for -/
def tr (ns : List Nd) (i : Nat) : Nat × Tops := (built ns).getD i (0, .nil)
def TabOk (ns : List Nd) : Prop := ns.length ≤ 1000 ∧ ∀ i nd, ns[i]? = some nd → nd.ps.length = nd.ss.length ∧ nd.ss.length ≤ 1000 ∧ ∀ j, j < nd.ss.length → ∃ p : Nat, nd.ps[j]? = some (p : Int) ∧ p < i
theorem built_at {ns : List Nd} {k : Nat} {j : Nat} (hj : j < k) (hk : k ≤ ns.length) : (built (ns.take k))[j]? = (built ns)[j]? := by
  have hlt : j < ns.length := by omega
  rw [built_take ns j ns[j] (List.getElem?_eq_getElem hlt), built_take (ns.take k) j ns[j] (by rw [List.getElem?_take, if_pos hj]; exact List.getElem?_eq_getElem hlt), List.take_take, Nat.min_eq_left (by omega)]
theorem mkTops_congr {bs bs' : List (Nat × Tops)} : ∀ (ps ss : List Int), (∀ p ∈ ps, bs.getD p.toNat (0, .nil) = bs'.getD p.toNat (0, .nil)) → mkTops bs ps ss = mkTops bs' ps ss
  | [], _, _ => by simp [mkTops]
  | _ :: _, [], _ => by simp [mkTops]
  | p :: ps, s :: ss, h => by
    simp only [mkTops]
    rw [h p (List.mem_cons_self ..), mkTops_congr ps ss (fun q hq => h q (List.mem_cons_of_mem _ hq))]
theorem tr_eq {ns : List Nd} {k : Nat} {nd : Nd} (hok : TabOk ns) (hk : ns[k]? = some nd) : tr ns k = (kindOf nd.ss.length, mkTops (built ns) nd.ps nd.ss) := by
  have hlt : k < ns.length := (List.getElem?_eq_some_iff.1 hk).1
  unfold tr
  rw [List.getD_eq_getElem?_getD, built_take ns k nd hk]
  show build1 (built (ns.take k)) nd = _
  unfold build1
  rw [mkTops_congr nd.ps nd.ss]
  intro p hp
  obtain ⟨h1, _, h2⟩ := hok.2 k nd hk
  obtain ⟨j, hj⟩ := List.getElem?_of_mem hp
  obtain ⟨q, hq, hqk⟩ := h2 j (by have := (List.getElem?_eq_some_iff.1 hj).1; omega)
  rw [hj] at hq; cases hq
  rw [List.getD_eq_getElem?_getD, List.getD_eq_getElem?_getD, Int.toNat_natCast, built_at hqk (by omega)]
theorem mkTops_at {bs : List (Nat × Tops)} : ∀ {ps ss : List Int} {j : Nat} {p : Nat} {s : Int}, ps[j]? = some (p : Int) → ss[j]? = some s → (mkTops bs ps ss).at? j = some (s, (bs.getD p (0, .nil)).1, (bs.getD p (0, .nil)).2)
  | [], _, _, _, _, h, _ => by simp at h
  | _ :: _, [], _, _, _, _, h => by simp at h
  | q :: ps, t :: ss, 0, p, s, h, h' => by
    simp at h h'
    subst h h'
    simp [mkTops, Tops.at?]
  | q :: ps, t :: ss, j + 1, p, s, h, h' => by
    simp only [mkTops, Tops.at?]
    exact mkTops_at (by simpa using h) (by simpa using h')
/-- Are two nodes made alike? -/
def alk (ns : List Nd) (a : Nat) (ms : List Nd) (b : Nat) : Bool := decide (tr ns a = tr ms b)
section
variable {ns ms : List Nd} {a b : Nat} {nd nd' : Nd}
theorem alk_len (ho : TabOk ns) (ho' : TabOk ms) (ha : ns[a]? = some nd) (hb : ms[b]? = some nd') (h : nd.ss.length ≠ nd'.ss.length) : alk ns a ms b = false := by
  refine decide_eq_false fun e => h ?_
  rw [tr_eq ho ha, tr_eq ho' hb] at e
  have e2 := congrArg (fun x => x.2.len) e
  simp only at e2
  rwa [mkTops_len _ _ _ (ho.2 a nd ha).1, mkTops_len _ _ _ (ho'.2 b nd' hb).1] at e2
theorem alk_no (ho : TabOk ns) (ho' : TabOk ms) (ha : ns[a]? = some nd) (hb : ms[b]? = some nd') {j p p' : Nat} {s s' : Int} (h1 : nd.ss[j]? = some s) (h2 : nd'.ss[j]? = some s') (h3 : nd.ps[j]? = some (p : Int)) (h4 : nd'.ps[j]? = some (p' : Int))
    (h : s ≠ s' ∨ alk ns p ms p' = false) : alk ns a ms b = false := by
  refine decide_eq_false fun e => ?_
  rw [tr_eq ho ha, tr_eq ho' hb] at e
  have e2 := congrArg (fun x => x.2.at? j) e
  simp only at e2
  rw [mkTops_at h3 h1, mkTops_at h4 h2] at e2
  simp only [Option.some.injEq, Prod.mk.injEq] at e2
  rcases h with h | h
  · exact h e2.1
  · exact (of_decide_eq_false h) (by unfold tr; exact Prod.ext e2.2.1 e2.2.2)
theorem alk_yes (ho : TabOk ns) (ho' : TabOk ms) (ha : ns[a]? = some nd) (hb : ms[b]? = some nd') (hl : nd.ss.length = nd'.ss.length)
    (h : ∀ j, j < nd.ss.length → ∃ (p p' : Nat) (s : Int), nd.ss[j]? = some s ∧ nd'.ss[j]? = some s ∧ nd.ps[j]? = some (p : Int) ∧ nd'.ps[j]? = some (p' : Int) ∧ alk ns p ms p' = true) : alk ns a ms b = true := by
  refine decide_eq_true ?_
  rw [tr_eq ho ha, tr_eq ho' hb, hl]
  congr 1
  refine Tops.ext_at (by rw [mkTops_len _ _ _ (ho.2 a nd ha).1, mkTops_len _ _ _ (ho'.2 b nd' hb).1, hl]) fun j hj => ?_
  rw [mkTops_len _ _ _ (ho.2 a nd ha).1] at hj
  obtain ⟨p, p', s, h1, h2, h3, h4, h5⟩ := h j hj
  have h6 : tr ns p = tr ms p' := of_decide_eq_true h5
  unfold tr at h6
  rw [mkTops_at h3 h1, mkTops_at h4 h2, h6]
end

def AlkTo (n : Nat) : Prop := ∀ (a b : Nat) (ns ms : List Nd) (A A' : Option Addr) (c c' : Nat) (w : World), a < n → TabOk ns → TabOk ms → Tbl w w.heap.size A ns → Tbl w w.heap.size A' ms → a < ns.length → b < ms.length →
  Calls Try.prog 22 #[.slice A ns.length c, .int .i64 a, .slice A' ms.length c', .int .i64 b] w (fun e w' => e = .returned (.bool (alk ns a ms b)) ∧ Below w.heap.size w w')

set_option maxRecDepth 20000 in
set_option maxHeartbeats 4000000 in
theorem alike_step (n : Nat) (IH : AlkTo n) : AlkTo (n + 1) := by
  intro a b ns ms A A' c c' w han ho ho' ht ht' ha hb
  have hna := List.getElem?_eq_getElem ha
  have hnb := List.getElem?_eq_getElem hb
  obtain ⟨b1, off1, Ap, cp, As, cs, rfl, hb1, cu1, cv1, rp, rs⟩ := ht.at_ hna
  obtain ⟨b2, off2, Ap', cp', As', cs', rfl, hb2, cu2, cv2, rp', rs'⟩ := ht'.at_ hnb
  generalize ns[a] = nd at *
  generalize ms[b] = nd' at *
  have hnl := ho.1
  have hml := ho'.1
  have HI := Lib.hid IH
  have HO := Lib.hid ho
  have HO' := Lib.hid ho'
  have HT := Lib.hid ht
  have HT' := Lib.hid ht'
  have HNA := Lib.hid hna
  have HNB := Lib.hid hnb
  have HRP := Lib.hid rp
  have HRS := Lib.hid rs
  have HRP' := Lib.hid rp'
  have HRS' := Lib.hid rs'
  clear IH ho ho' ht ht' hna hnb rp rs rp' rs'
  go_enter Try.func22, Try.ntmps22
  go_wp2_with fail
  refine wp_region_sch (fun w' => Below w.heap.size w w') (.take 0 <| .take 1 <| .take 2 <| .take 3 <| .take 4 <| .take 5 <| .take 6 <| .take 7 <| .fork 8 9 (.step 9 <| .step 10 <| .step 11 .done) (.step 8 <| .step 10 <| .step 11 .done)) (by kernel_rfl) (by kernel_rfl) (below_drew' (Below.refl _ _)) ?_
  repeat
    apply Along.take rfl rfl
    · intro w' hw'
      have x0 := cell_bel cu1 hw'
      have x1 := cell_bel cv1 hw'
      have x2 := cell_bel cu2 hw'
      have x3 := cell_bel cv2 hw'
      go_simp
      with_reducible rfl
    try simp only [Act.put, List.getElem_toArray, List.getElem_cons_succ, List.getElem_cons_zero, List.setIfInBounds_toArray, List.set_cons_zero, List.set_cons_succ]
  refine Along.fork ?_ ?_
  · refine Along.step rfl rfl (fun K hK => ?_)
    go_simp
    refine hK _ _ (below_alloc' (below_drew' (Below.refl _ _)) _) ?_
    clear hK
    try simp only [Act.put, List.getElem_toArray, List.getElem_cons_succ, List.getElem_cons_zero, List.setIfInBounds_toArray, List.set_cons_zero, List.set_cons_succ]
    refine Along.step rfl rfl (fun K hK => ?_)
    go_simp
    refine hK _ _ (below_alloc' (below_alloc' (below_drew' (Below.refl _ _)) _) _) ?_
    clear hK
    try simp only [Act.put, List.getElem_toArray, List.getElem_cons_succ, List.getElem_cons_zero, List.setIfInBounds_toArray, List.set_cons_zero, List.set_cons_succ]
    refine Along.step rfl rfl (fun K hK => ?_)
    go_simp
    refine hK _ _ (below_drew' (below_alloc' (below_alloc' (Below.refl _ _) _) _)) ?_
    clear hK
    try simp only [Act.put, List.getElem_toArray, List.getElem_cons_succ, List.getElem_cons_zero, List.setIfInBounds_toArray, List.set_cons_zero, List.set_cons_succ]
    refine Along.last (by kernel_rfl) rfl rfl rfl (fun K hK => ?_)
    go_simp
    refine hK _ _ ?_
    clear hK
    refine Along.done ?_
    obtain ⟨W0, hW0⟩ : ∃ W0 : World, W0 = ((w.alloc (Obj.cells #[Value.slice Ap nd.ps.length cp, Value.slice As nd.ss.length cs] 32)).alloc (Obj.cells #[Value.slice Ap' nd'.ps.length cp', Value.slice As' nd'.ss.length cs'] 32)).drew := ⟨_, rfl⟩
    have hb0 : Below w.heap.size w W0 := by rw [hW0]; exact below_drew' (below_alloc' (below_alloc' (Below.refl _ _) _) _)
    obtain ⟨gx, hgx⟩ : ∃ gx, gx = w.heap.size := ⟨_, rfl⟩
    obtain ⟨gy, hgy⟩ : ∃ gy, gy = w.heap.size + 1 := ⟨_, rfl⟩
    have x0 : W0.cell? ⟨gx, 0, none⟩ = some (.slice Ap nd.ps.length cp) := by rw [hW0, hgx]; exact cell_alloc (by simp [World.cell?_alloc_new]) _
    have x1 : W0.cell? ⟨gx, 1, none⟩ = some (.slice As nd.ss.length cs) := by rw [hW0, hgx]; exact cell_alloc (by simp [World.cell?_alloc_new]) _
    have y0 : W0.cell? ⟨gy, 0, none⟩ = some (.slice Ap' nd'.ps.length cp') := by rw [hW0, hgy]; exact (cell_of_row _ _ _ _ _ _ (heap_new' (by simp))).trans rfl
    have y1 : W0.cell? ⟨gy, 1, none⟩ = some (.slice As' nd'.ss.length cs') := by rw [hW0, hgy]; exact (cell_of_row _ _ _ _ _ _ (heap_new' (by simp))).trans rfl
    rw [← hW0, ← hgy, ← hgx]
    clear hW0 hgx hgy
    have HBW := Lib.hid hb0
    by_cases hll : nd.ss.length = nd'.ss.length
    · have hll' : ((nd.ss.length : Int) != (nd'.ss.length : Int)) = false := by rw [bne_eq_false_iff_eq]; omega
      have HLL := Lib.hid hll
      clear hll
      go_wp2_with fail
      go_loopw [30] (fun i wr => ∃ k : Nat, k ≤ nd.ss.length ∧ i = .int .i64 k ∧ Hid (∀ j, j < k → ∃ (p p' : Nat) (s : Int), nd.ss[j]? = some s ∧ nd'.ss[j]? = some s ∧ nd.ps[j]? = some (p : Int) ∧ nd'.ps[j]? = some (p' : Int) ∧ alk ns p ms p' = true) ∧ Hid (Below W0.heap.size W0 wr)) (fun i _ => nd.ss.length - (intOf i).toNat)
      case atStart => exact ⟨0, Nat.zero_le _, rfl, Lib.hid (fun j hj => absurd hj (by omega)), Lib.hid (Below.refl _ _)⟩
      case round =>
        obtain ⟨k, hk, rfl, HM, HB⟩ := hrel
        by_cases hlt : k < nd.ss.length
        · have hlt' : k < nd'.ss.length := by have := HLL.out; omega
          have HX := Lib.hid (below_trans HBW.out HB.out)
          obtain ⟨hpl, hsl, hpj⟩ := HO.out.2 a nd HNA.out
          obtain ⟨hpl', hsl', hpj'⟩ := HO'.out.2 b nd' HNB.out
          obtain ⟨bs, os, us, e1, _, hu1, hc1⟩ := (HRS.out.ext HX.out).at1 hlt
          obtain ⟨bs', os', us', e2, _, hu2, hc2⟩ := (HRS'.out.ext HX.out).at1 hlt'
          obtain ⟨bp, op, up, e3, _, hu3, hc3⟩ := (HRP.out.ext HX.out).at1 (k := k) (by omega)
          obtain ⟨bp', op', up', e4, _, hu4, hc4⟩ := (HRP'.out.ext HX.out).at1 (k := k) (by omega)
          subst e1 e2 e3 e4
          obtain ⟨s, hs, rfl⟩ := ints_at hu1
          obtain ⟨s', hs', rfl⟩ := ints_at hu2
          obtain ⟨q, hq, rfl⟩ := ints_at hu3
          obtain ⟨q', hq', rfl⟩ := ints_at hu4
          obtain ⟨p1, hp1, hpa⟩ := hpj k hlt
          obtain ⟨p2, hp2, hpb⟩ := hpj' k hlt'
          rw [hq] at hp1; cases hp1
          rw [hq'] at hp2; cases hp2
          have HS := Lib.hid hs
          have HS' := Lib.hid hs'
          have HQ := Lib.hid hq
          have HQ' := Lib.hid hq'
          have hkp : k < nd.ps.length := by omega
          have hkp' : k < nd'.ps.length := by omega
          have v0 := cell_bel x0 HB.out
          have v1 := cell_bel x1 HB.out
          have v2 := cell_bel y0 HB.out
          have v3 := cell_bel y1 HB.out
          clear hu1 hu2 hu3 hu4 hs hs' hq hq' hpj hpj' hpl hpl'
          by_cases hss : s = s'
          · subst hss
            have hss' : (s != s) = false := by rw [bne_eq_false_iff_eq]
            have HC := Lib.hid (fun W (hW : Below wr.heap.size wr W) => HI.out p1 p2 ns ms (some ⟨b1, off1, none⟩) (some ⟨b2, off2, none⟩) c c' W (by omega) HO.out HO'.out ((HT.out.below (below_trans HX.out hW)).more (below_trans HX.out hW).size) ((HT'.out.below (below_trans HX.out hW)).more (below_trans HX.out hW).size) (by omega) (by omega))
            go_wp2_with fail
            refine wp_region_sch (fun w' => Below wr.heap.size wr w') (.take 0 <| .take 1 <| .take 2 <| .take 3 <| .take 4 <| .take 5 <| .take 6 <| .take 7 <| .take 8 <| .take 9 <| .take 10 <| .take 11 <| .take 12 <| .take 13 <| .take 14 <| .take 15 <| .take 16 <| .take 17 <| .take 18 <| .take 19 <| .take 20 <| .take 21 <| .take 22 <| .take 23 <| .step 24 <| .take 25 <| .take 26 .done) (by kernel_rfl) (by kernel_rfl) (below_drew' (Below.refl _ _)) ?_
            repeat
              apply Along.take rfl
              · go_simp; done
              · intro w' hw'
                have z0 := cell_bel v0 hw'
                have z1 := cell_bel v1 hw'
                have z2 := cell_bel v2 hw'
                have z3 := cell_bel v3 hw'
                have z4 := cell_bel hc1 hw'
                have z5 := cell_bel hc2 hw'
                have z6 := cell_bel hc3 hw'
                have z7 := cell_bel hc4 hw'
                go_simp
                with_reducible rfl
              try simp only [Act.put, List.getElem_toArray, List.getElem_cons_succ, List.getElem_cons_zero, List.setIfInBounds_toArray, List.set_cons_zero, List.set_cons_succ]
            refine Along.step rfl ?_ (fun K hK => ?_)
            · go_simp; done
            go_simp
            refine (HC.out _ (below_drew' (Below.refl _ _))).mono ?_
            rintro e w3 ⟨rfl, hb3⟩
            have HB3 := Lib.hid (below_trans (below_drew' (Below.refl wr.heap.size wr)) hb3)
            refine hK _ _ HB3.out ?_
            clear hK hb3
            try simp only [Act.put, List.getElem_toArray, List.getElem_cons_succ, List.getElem_cons_zero, List.setIfInBounds_toArray, List.set_cons_zero, List.set_cons_succ]
            cases hres : alk ns p1 ms p2
            · have HN := Lib.hid (alk_no HO.out HO'.out HNA.out HNB.out HS.out HS'.out HQ.out HQ'.out (.inr hres))
              clear hres
              repeat
                apply Along.take rfl
                · go_simp; done
                · intro w' hw'
                  go_simp
                  with_reducible rfl
                try simp only [Act.put, List.getElem_toArray, List.getElem_cons_succ, List.getElem_cons_zero, List.setIfInBounds_toArray, List.set_cons_zero, List.set_cons_succ]
              refine Along.done ?_
              go_wp2_with fail
              go_ret
              exact ⟨by rw [HN.out]; rfl, below_trans HX.out HB3.out⟩
            · have HR := Lib.hid hres
              clear hres
              repeat
                apply Along.take rfl
                · go_simp; done
                · intro w' hw'
                  go_simp
                  with_reducible rfl
                try simp only [Act.put, List.getElem_toArray, List.getElem_cons_succ, List.getElem_cons_zero, List.setIfInBounds_toArray, List.set_cons_zero, List.set_cons_succ]
              refine Along.done ?_
              go_wp2_with fail
              go_roundw
              case rel => exact ⟨k + 1, by omega, by go_num, Lib.hid (fun j hj => by
                rcases Nat.lt_or_ge j k with h1 | h1
                · exact HM.out j h1
                · obtain rfl : j = k := by omega
                  exact ⟨p1, p2, s, HS.out, HS'.out, HQ.out, HQ'.out, HR.out⟩), Lib.hid (below_trans HB.out HB3.out)⟩
              case measure => simp [intOf]; omega
          · have hss' : (s != s') = true := by rw [bne_iff_ne]; exact hss
            have HN := Lib.hid (alk_no HO.out HO'.out HNA.out HNB.out HS.out HS'.out HQ.out HQ'.out (.inl hss))
            clear hss
            go_wp2_with fail
            refine wp_region_sch (fun w' => Below wr.heap.size wr w') (.take 0 <| .take 1 <| .take 2 <| .take 3 <| .take 4 <| .take 5 <| .take 6 <| .take 7 <| .take 8 <| .take 9 <| .take 10 <| .take 11 <| .take 12 <| .take 13 <| .take 14 <| .take 15 <| .take 16 <| .take 17 <| .take 18 <| .take 19 <| .take 20 <| .take 21 <| .take 22 <| .take 23 <| .step 24 <| .take 25 <| .take 26 .done) (by kernel_rfl) (by kernel_rfl) (below_drew' (Below.refl _ _)) ?_
            repeat
              apply Along.take rfl
              · go_simp; done
              · intro w' hw'
                have z0 := cell_bel v0 hw'
                have z1 := cell_bel v1 hw'
                have z2 := cell_bel v2 hw'
                have z3 := cell_bel v3 hw'
                have z4 := cell_bel hc1 hw'
                have z5 := cell_bel hc2 hw'
                go_simp
                with_reducible rfl
              try simp only [Act.put, List.getElem_toArray, List.getElem_cons_succ, List.getElem_cons_zero, List.setIfInBounds_toArray, List.set_cons_zero, List.set_cons_succ]
            refine Along.pass rfl ?_ ?_
            · go_simp; done
            try simp only [Act.put, List.getElem_toArray, List.getElem_cons_succ, List.getElem_cons_zero, List.setIfInBounds_toArray, List.set_cons_zero, List.set_cons_succ]
            refine Along.pass rfl ?_ ?_
            · go_simp; done
            try simp only [Act.put, List.getElem_toArray, List.getElem_cons_succ, List.getElem_cons_zero, List.setIfInBounds_toArray, List.set_cons_zero, List.set_cons_succ]
            refine Along.pass rfl ?_ ?_
            · go_simp; done
            try simp only [Act.put, List.getElem_toArray, List.getElem_cons_succ, List.getElem_cons_zero, List.setIfInBounds_toArray, List.set_cons_zero, List.set_cons_succ]
            refine Along.pass rfl ?_ ?_
            · go_simp; done
            try simp only [Act.put, List.getElem_toArray, List.getElem_cons_succ, List.getElem_cons_zero, List.setIfInBounds_toArray, List.set_cons_zero, List.set_cons_succ]
            refine Along.pass rfl ?_ ?_
            · go_simp; done
            try simp only [Act.put, List.getElem_toArray, List.getElem_cons_succ, List.getElem_cons_zero, List.setIfInBounds_toArray, List.set_cons_zero, List.set_cons_succ]
            refine Along.pass rfl ?_ ?_
            · go_simp; done
            try simp only [Act.put, List.getElem_toArray, List.getElem_cons_succ, List.getElem_cons_zero, List.setIfInBounds_toArray, List.set_cons_zero, List.set_cons_succ]
            refine Along.pass rfl ?_ ?_
            · go_simp; done
            try simp only [Act.put, List.getElem_toArray, List.getElem_cons_succ, List.getElem_cons_zero, List.setIfInBounds_toArray, List.set_cons_zero, List.set_cons_succ]
            refine Along.pass rfl ?_ ?_
            · go_simp; done
            try simp only [Act.put, List.getElem_toArray, List.getElem_cons_succ, List.getElem_cons_zero, List.setIfInBounds_toArray, List.set_cons_zero, List.set_cons_succ]
            refine Along.pass rfl ?_ ?_
            · go_simp; done
            try simp only [Act.put, List.getElem_toArray, List.getElem_cons_succ, List.getElem_cons_zero, List.setIfInBounds_toArray, List.set_cons_zero, List.set_cons_succ]
            refine Along.pass rfl ?_ ?_
            · go_simp; done
            try simp only [Act.put, List.getElem_toArray, List.getElem_cons_succ, List.getElem_cons_zero, List.setIfInBounds_toArray, List.set_cons_zero, List.set_cons_succ]
            refine Along.pass rfl ?_ ?_
            · go_simp; done
            try simp only [Act.put, List.getElem_toArray, List.getElem_cons_succ, List.getElem_cons_zero, List.setIfInBounds_toArray, List.set_cons_zero, List.set_cons_succ]
            refine Along.pass rfl ?_ ?_
            · go_simp; done
            try simp only [Act.put, List.getElem_toArray, List.getElem_cons_succ, List.getElem_cons_zero, List.setIfInBounds_toArray, List.set_cons_zero, List.set_cons_succ]
            refine Along.skip rfl ?_ (below_drew' (Below.refl _ _)) ?_
            · go_simp; done
            try simp only [Act.put, List.getElem_toArray, List.getElem_cons_succ, List.getElem_cons_zero, List.setIfInBounds_toArray, List.set_cons_zero, List.set_cons_succ]
            refine Along.pass rfl ?_ ?_
            · go_simp; done
            try simp only [Act.put, List.getElem_toArray, List.getElem_cons_succ, List.getElem_cons_zero, List.setIfInBounds_toArray, List.set_cons_zero, List.set_cons_succ]
            repeat
              apply Along.take rfl
              · go_simp; done
              · intro w' hw'
                go_simp
                with_reducible rfl
              try simp only [Act.put, List.getElem_toArray, List.getElem_cons_succ, List.getElem_cons_zero, List.setIfInBounds_toArray, List.set_cons_zero, List.set_cons_succ]
            refine Along.done ?_
            go_wp2_with fail
            go_ret
            exact ⟨by rw [HN.out]; rfl, below_trans HX.out (below_drew' (Below.refl _ _))⟩
        · have HN := Lib.hid (show alk ns a ms b = true from alk_yes HO.out HO'.out HNA.out HNB.out HLL.out (fun j hj => HM.out j (by omega)))
          go_wp2_with fail
          go_ret
          exact ⟨by rw [HN.out]; rfl, below_trans HBW.out HB.out⟩
    · have hll' : ((nd.ss.length : Int) != (nd'.ss.length : Int)) = true := by rw [bne_iff_ne]; omega
      have HN := Lib.hid (alk_len HO.out HO'.out HNA.out HNB.out hll)
      clear hll
      go_wp2_with fail
      go_ret
      exact ⟨by rw [HN.out]; rfl, HBW.out⟩
  · refine Along.step rfl rfl (fun K hK => ?_)
    go_simp
    refine hK _ _ (below_alloc' (below_drew' (Below.refl _ _)) _) ?_
    clear hK
    try simp only [Act.put, List.getElem_toArray, List.getElem_cons_succ, List.getElem_cons_zero, List.setIfInBounds_toArray, List.set_cons_zero, List.set_cons_succ]
    refine Along.step rfl rfl (fun K hK => ?_)
    go_simp
    refine hK _ _ (below_alloc' (below_alloc' (below_drew' (Below.refl _ _)) _) _) ?_
    clear hK
    try simp only [Act.put, List.getElem_toArray, List.getElem_cons_succ, List.getElem_cons_zero, List.setIfInBounds_toArray, List.set_cons_zero, List.set_cons_succ]
    refine Along.step rfl rfl (fun K hK => ?_)
    go_simp
    refine hK _ _ (below_drew' (below_alloc' (below_alloc' (Below.refl _ _) _) _)) ?_
    clear hK
    try simp only [Act.put, List.getElem_toArray, List.getElem_cons_succ, List.getElem_cons_zero, List.setIfInBounds_toArray, List.set_cons_zero, List.set_cons_succ]
    refine Along.last (by kernel_rfl) rfl rfl rfl (fun K hK => ?_)
    go_simp
    refine hK _ _ ?_
    clear hK
    refine Along.done ?_
    obtain ⟨W0, hW0⟩ : ∃ W0 : World, W0 = ((w.alloc (Obj.cells #[Value.slice Ap' nd'.ps.length cp', Value.slice As' nd'.ss.length cs'] 32)).alloc (Obj.cells #[Value.slice Ap nd.ps.length cp, Value.slice As nd.ss.length cs] 32)).drew := ⟨_, rfl⟩
    have hb0 : Below w.heap.size w W0 := by rw [hW0]; exact below_drew' (below_alloc' (below_alloc' (Below.refl _ _) _) _)
    obtain ⟨gx, hgx⟩ : ∃ gx, gx = w.heap.size + 1 := ⟨_, rfl⟩
    obtain ⟨gy, hgy⟩ : ∃ gy, gy = w.heap.size := ⟨_, rfl⟩
    have x0 : W0.cell? ⟨gx, 0, none⟩ = some (.slice Ap nd.ps.length cp) := by rw [hW0, hgx]; exact (cell_of_row _ _ _ _ _ _ (heap_new' (by simp))).trans rfl
    have x1 : W0.cell? ⟨gx, 1, none⟩ = some (.slice As nd.ss.length cs) := by rw [hW0, hgx]; exact (cell_of_row _ _ _ _ _ _ (heap_new' (by simp))).trans rfl
    have y0 : W0.cell? ⟨gy, 0, none⟩ = some (.slice Ap' nd'.ps.length cp') := by rw [hW0, hgy]; exact cell_alloc (by simp [World.cell?_alloc_new]) _
    have y1 : W0.cell? ⟨gy, 1, none⟩ = some (.slice As' nd'.ss.length cs') := by rw [hW0, hgy]; exact cell_alloc (by simp [World.cell?_alloc_new]) _
    rw [← hW0, ← hgx, ← hgy]
    clear hW0 hgx hgy
    have HBW := Lib.hid hb0
    by_cases hll : nd.ss.length = nd'.ss.length
    · have hll' : ((nd.ss.length : Int) != (nd'.ss.length : Int)) = false := by rw [bne_eq_false_iff_eq]; omega
      have HLL := Lib.hid hll
      clear hll
      go_wp2_with fail
      go_loopw [30] (fun i wr => ∃ k : Nat, k ≤ nd.ss.length ∧ i = .int .i64 k ∧ Hid (∀ j, j < k → ∃ (p p' : Nat) (s : Int), nd.ss[j]? = some s ∧ nd'.ss[j]? = some s ∧ nd.ps[j]? = some (p : Int) ∧ nd'.ps[j]? = some (p' : Int) ∧ alk ns p ms p' = true) ∧ Hid (Below W0.heap.size W0 wr)) (fun i _ => nd.ss.length - (intOf i).toNat)
      case atStart => exact ⟨0, Nat.zero_le _, rfl, Lib.hid (fun j hj => absurd hj (by omega)), Lib.hid (Below.refl _ _)⟩
      case round =>
        obtain ⟨k, hk, rfl, HM, HB⟩ := hrel
        by_cases hlt : k < nd.ss.length
        · have hlt' : k < nd'.ss.length := by have := HLL.out; omega
          have HX := Lib.hid (below_trans HBW.out HB.out)
          obtain ⟨hpl, hsl, hpj⟩ := HO.out.2 a nd HNA.out
          obtain ⟨hpl', hsl', hpj'⟩ := HO'.out.2 b nd' HNB.out
          obtain ⟨bs, os, us, e1, _, hu1, hc1⟩ := (HRS.out.ext HX.out).at1 hlt
          obtain ⟨bs', os', us', e2, _, hu2, hc2⟩ := (HRS'.out.ext HX.out).at1 hlt'
          obtain ⟨bp, op, up, e3, _, hu3, hc3⟩ := (HRP.out.ext HX.out).at1 (k := k) (by omega)
          obtain ⟨bp', op', up', e4, _, hu4, hc4⟩ := (HRP'.out.ext HX.out).at1 (k := k) (by omega)
          subst e1 e2 e3 e4
          obtain ⟨s, hs, rfl⟩ := ints_at hu1
          obtain ⟨s', hs', rfl⟩ := ints_at hu2
          obtain ⟨q, hq, rfl⟩ := ints_at hu3
          obtain ⟨q', hq', rfl⟩ := ints_at hu4
          obtain ⟨p1, hp1, hpa⟩ := hpj k hlt
          obtain ⟨p2, hp2, hpb⟩ := hpj' k hlt'
          rw [hq] at hp1; cases hp1
          rw [hq'] at hp2; cases hp2
          have HS := Lib.hid hs
          have HS' := Lib.hid hs'
          have HQ := Lib.hid hq
          have HQ' := Lib.hid hq'
          have hkp : k < nd.ps.length := by omega
          have hkp' : k < nd'.ps.length := by omega
          have v0 := cell_bel x0 HB.out
          have v1 := cell_bel x1 HB.out
          have v2 := cell_bel y0 HB.out
          have v3 := cell_bel y1 HB.out
          clear hu1 hu2 hu3 hu4 hs hs' hq hq' hpj hpj' hpl hpl'
          by_cases hss : s = s'
          · subst hss
            have hss' : (s != s) = false := by rw [bne_eq_false_iff_eq]
            have HC := Lib.hid (fun W (hW : Below wr.heap.size wr W) => HI.out p1 p2 ns ms (some ⟨b1, off1, none⟩) (some ⟨b2, off2, none⟩) c c' W (by omega) HO.out HO'.out ((HT.out.below (below_trans HX.out hW)).more (below_trans HX.out hW).size) ((HT'.out.below (below_trans HX.out hW)).more (below_trans HX.out hW).size) (by omega) (by omega))
            go_wp2_with fail
            refine wp_region_sch (fun w' => Below wr.heap.size wr w') (.take 0 <| .take 1 <| .take 2 <| .take 3 <| .take 4 <| .take 5 <| .take 6 <| .take 7 <| .take 8 <| .take 9 <| .take 10 <| .take 11 <| .take 12 <| .take 13 <| .take 14 <| .take 15 <| .take 16 <| .take 17 <| .take 18 <| .take 19 <| .take 20 <| .take 21 <| .take 22 <| .take 23 <| .step 24 <| .take 25 <| .take 26 .done) (by kernel_rfl) (by kernel_rfl) (below_drew' (Below.refl _ _)) ?_
            repeat
              apply Along.take rfl
              · go_simp; done
              · intro w' hw'
                have z0 := cell_bel v0 hw'
                have z1 := cell_bel v1 hw'
                have z2 := cell_bel v2 hw'
                have z3 := cell_bel v3 hw'
                have z4 := cell_bel hc1 hw'
                have z5 := cell_bel hc2 hw'
                have z6 := cell_bel hc3 hw'
                have z7 := cell_bel hc4 hw'
                go_simp
                with_reducible rfl
              try simp only [Act.put, List.getElem_toArray, List.getElem_cons_succ, List.getElem_cons_zero, List.setIfInBounds_toArray, List.set_cons_zero, List.set_cons_succ]
            refine Along.step rfl ?_ (fun K hK => ?_)
            · go_simp; done
            go_simp
            refine (HC.out _ (below_drew' (Below.refl _ _))).mono ?_
            rintro e w3 ⟨rfl, hb3⟩
            have HB3 := Lib.hid (below_trans (below_drew' (Below.refl wr.heap.size wr)) hb3)
            refine hK _ _ HB3.out ?_
            clear hK hb3
            try simp only [Act.put, List.getElem_toArray, List.getElem_cons_succ, List.getElem_cons_zero, List.setIfInBounds_toArray, List.set_cons_zero, List.set_cons_succ]
            cases hres : alk ns p1 ms p2
            · have HN := Lib.hid (alk_no HO.out HO'.out HNA.out HNB.out HS.out HS'.out HQ.out HQ'.out (.inr hres))
              clear hres
              repeat
                apply Along.take rfl
                · go_simp; done
                · intro w' hw'
                  go_simp
                  with_reducible rfl
                try simp only [Act.put, List.getElem_toArray, List.getElem_cons_succ, List.getElem_cons_zero, List.setIfInBounds_toArray, List.set_cons_zero, List.set_cons_succ]
              refine Along.done ?_
              go_wp2_with fail
              go_ret
              exact ⟨by rw [HN.out]; rfl, below_trans HX.out HB3.out⟩
            · have HR := Lib.hid hres
              clear hres
              repeat
                apply Along.take rfl
                · go_simp; done
                · intro w' hw'
                  go_simp
                  with_reducible rfl
                try simp only [Act.put, List.getElem_toArray, List.getElem_cons_succ, List.getElem_cons_zero, List.setIfInBounds_toArray, List.set_cons_zero, List.set_cons_succ]
              refine Along.done ?_
              go_wp2_with fail
              go_roundw
              case rel => exact ⟨k + 1, by omega, by go_num, Lib.hid (fun j hj => by
                rcases Nat.lt_or_ge j k with h1 | h1
                · exact HM.out j h1
                · obtain rfl : j = k := by omega
                  exact ⟨p1, p2, s, HS.out, HS'.out, HQ.out, HQ'.out, HR.out⟩), Lib.hid (below_trans HB.out HB3.out)⟩
              case measure => simp [intOf]; omega
          · have hss' : (s != s') = true := by rw [bne_iff_ne]; exact hss
            have HN := Lib.hid (alk_no HO.out HO'.out HNA.out HNB.out HS.out HS'.out HQ.out HQ'.out (.inl hss))
            clear hss
            go_wp2_with fail
            refine wp_region_sch (fun w' => Below wr.heap.size wr w') (.take 0 <| .take 1 <| .take 2 <| .take 3 <| .take 4 <| .take 5 <| .take 6 <| .take 7 <| .take 8 <| .take 9 <| .take 10 <| .take 11 <| .take 12 <| .take 13 <| .take 14 <| .take 15 <| .take 16 <| .take 17 <| .take 18 <| .take 19 <| .take 20 <| .take 21 <| .take 22 <| .take 23 <| .step 24 <| .take 25 <| .take 26 .done) (by kernel_rfl) (by kernel_rfl) (below_drew' (Below.refl _ _)) ?_
            repeat
              apply Along.take rfl
              · go_simp; done
              · intro w' hw'
                have z0 := cell_bel v0 hw'
                have z1 := cell_bel v1 hw'
                have z2 := cell_bel v2 hw'
                have z3 := cell_bel v3 hw'
                have z4 := cell_bel hc1 hw'
                have z5 := cell_bel hc2 hw'
                go_simp
                with_reducible rfl
              try simp only [Act.put, List.getElem_toArray, List.getElem_cons_succ, List.getElem_cons_zero, List.setIfInBounds_toArray, List.set_cons_zero, List.set_cons_succ]
            refine Along.pass rfl ?_ ?_
            · go_simp; done
            try simp only [Act.put, List.getElem_toArray, List.getElem_cons_succ, List.getElem_cons_zero, List.setIfInBounds_toArray, List.set_cons_zero, List.set_cons_succ]
            refine Along.pass rfl ?_ ?_
            · go_simp; done
            try simp only [Act.put, List.getElem_toArray, List.getElem_cons_succ, List.getElem_cons_zero, List.setIfInBounds_toArray, List.set_cons_zero, List.set_cons_succ]
            refine Along.pass rfl ?_ ?_
            · go_simp; done
            try simp only [Act.put, List.getElem_toArray, List.getElem_cons_succ, List.getElem_cons_zero, List.setIfInBounds_toArray, List.set_cons_zero, List.set_cons_succ]
            refine Along.pass rfl ?_ ?_
            · go_simp; done
            try simp only [Act.put, List.getElem_toArray, List.getElem_cons_succ, List.getElem_cons_zero, List.setIfInBounds_toArray, List.set_cons_zero, List.set_cons_succ]
            refine Along.pass rfl ?_ ?_
            · go_simp; done
            try simp only [Act.put, List.getElem_toArray, List.getElem_cons_succ, List.getElem_cons_zero, List.setIfInBounds_toArray, List.set_cons_zero, List.set_cons_succ]
            refine Along.pass rfl ?_ ?_
            · go_simp; done
            try simp only [Act.put, List.getElem_toArray, List.getElem_cons_succ, List.getElem_cons_zero, List.setIfInBounds_toArray, List.set_cons_zero, List.set_cons_succ]
            refine Along.pass rfl ?_ ?_
            · go_simp; done
            try simp only [Act.put, List.getElem_toArray, List.getElem_cons_succ, List.getElem_cons_zero, List.setIfInBounds_toArray, List.set_cons_zero, List.set_cons_succ]
            refine Along.pass rfl ?_ ?_
            · go_simp; done
            try simp only [Act.put, List.getElem_toArray, List.getElem_cons_succ, List.getElem_cons_zero, List.setIfInBounds_toArray, List.set_cons_zero, List.set_cons_succ]
            refine Along.pass rfl ?_ ?_
            · go_simp; done
            try simp only [Act.put, List.getElem_toArray, List.getElem_cons_succ, List.getElem_cons_zero, List.setIfInBounds_toArray, List.set_cons_zero, List.set_cons_succ]
            refine Along.pass rfl ?_ ?_
            · go_simp; done
            try simp only [Act.put, List.getElem_toArray, List.getElem_cons_succ, List.getElem_cons_zero, List.setIfInBounds_toArray, List.set_cons_zero, List.set_cons_succ]
            refine Along.pass rfl ?_ ?_
            · go_simp; done
            try simp only [Act.put, List.getElem_toArray, List.getElem_cons_succ, List.getElem_cons_zero, List.setIfInBounds_toArray, List.set_cons_zero, List.set_cons_succ]
            refine Along.pass rfl ?_ ?_
            · go_simp; done
            try simp only [Act.put, List.getElem_toArray, List.getElem_cons_succ, List.getElem_cons_zero, List.setIfInBounds_toArray, List.set_cons_zero, List.set_cons_succ]
            refine Along.skip rfl ?_ (below_drew' (Below.refl _ _)) ?_
            · go_simp; done
            try simp only [Act.put, List.getElem_toArray, List.getElem_cons_succ, List.getElem_cons_zero, List.setIfInBounds_toArray, List.set_cons_zero, List.set_cons_succ]
            refine Along.pass rfl ?_ ?_
            · go_simp; done
            try simp only [Act.put, List.getElem_toArray, List.getElem_cons_succ, List.getElem_cons_zero, List.setIfInBounds_toArray, List.set_cons_zero, List.set_cons_succ]
            repeat
              apply Along.take rfl
              · go_simp; done
              · intro w' hw'
                go_simp
                with_reducible rfl
              try simp only [Act.put, List.getElem_toArray, List.getElem_cons_succ, List.getElem_cons_zero, List.setIfInBounds_toArray, List.set_cons_zero, List.set_cons_succ]
            refine Along.done ?_
            go_wp2_with fail
            go_ret
            exact ⟨by rw [HN.out]; rfl, below_trans HX.out (below_drew' (Below.refl _ _))⟩
        · have HN := Lib.hid (show alk ns a ms b = true from alk_yes HO.out HO'.out HNA.out HNB.out HLL.out (fun j hj => HM.out j (by omega)))
          go_wp2_with fail
          go_ret
          exact ⟨by rw [HN.out]; rfl, below_trans HBW.out HB.out⟩
    · have hll' : ((nd.ss.length : Int) != (nd'.ss.length : Int)) = true := by rw [bne_iff_ne]; omega
      have HN := Lib.hid (alk_len HO.out HO'.out HNA.out HNB.out hll)
      clear hll
      go_wp2_with fail
      go_ret
      exact ⟨by rw [HN.out]; rfl, HBW.out⟩

theorem alike_all (n : Nat) : AlkTo n := by
  induction n with
  | zero => intro a b ns ms A A' c c' w h; omega
  | succ n ih => exact alike_step n ih
/-- ALIKE -/
theorem alike_any (a b : Nat) (ns ms : List Nd) (A A' : Option Addr) (c c' : Nat) (w : World) (ho : TabOk ns) (ho' : TabOk ms) (ht : Tbl w w.heap.size A ns) (ht' : Tbl w w.heap.size A' ms) (ha : a < ns.length) (hb : b < ms.length) :
    Calls Try.prog 22 #[.slice A ns.length c, .int .i64 a, .slice A' ms.length c', .int .i64 b] w (fun e w' => e = .returned (.bool (alk ns a ms b)) ∧ Below w.heap.size w w') :=
  alike_all (a + 1) a b ns ms A A' c c' w (Nat.lt_succ_self _) ho ho' ht ht' ha hb
end Go.Proofs.Ytcbabfndfikejaa
