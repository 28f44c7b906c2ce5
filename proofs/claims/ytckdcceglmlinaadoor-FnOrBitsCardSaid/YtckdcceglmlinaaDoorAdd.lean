/- The walks that set and clear a bit. Condition: words below 2^64, at most 100 of them; the bit at most 1000. -/
import Derived.Test.YtckdcceglmlinaaDoorRead
import Derived.Laws.CopyOwn
namespace Go.Proofs.YtckdcceglmlinaaDoor
open Go.RowKit
set_option linter.unusedSimpArgs false

/-- a set of bits of the call's own -/
def BitO (w : World) (base g : Nat) (ws : List Nat) : Prop := ∃ A c, Blk w g 53 #[.slice A ws.length c] ∧ base ≤ g ∧ w.ownsRow base 54 1 (.slice A ws.length c) ws.length (wds ws)
theorem BitO.read {w : World} {base g : Nat} {ws : List Nat} (h : BitO w base g ws) : BitR w g ws := by
  obtain ⟨A, c, h1, _, h2⟩ := h
  exact ⟨A, c, h1, Reads.of_own h2⟩
theorem BitO.ext {w w' : World} {base g : Nat} {ws : List Nat} (h : BitO w base g ws) (hb : Below w.heap.size w w') : BitO w' base g ws := by
  obtain ⟨A, c, h1, h0, h2⟩ := h
  exact ⟨A, c, h1.below hb h1.lt, h0, ownsRow_ext h2 hb⟩
def BitPost (base g : Nat) (ws : List Nat) (w : World) (e : Ending) (w' : World) : Prop := e = .returned (.tuple #[]) ∧ BitO w' base g ws ∧ Below base w w'
theorem wds_set (ws : List Nat) (k n : Nat) : (wds ws).set k (.int .u64 (n : Int)) = wds (ws.set k n) := by simp [wds, List.map_set]
theorem bitO_store {w : World} {base g r c q : Nat} {ws : List Nat} {n : Nat} (hB : Blk w g 53 #[.slice (some ⟨r, 0, none⟩) ws.length c]) (hbg : base ≤ g) (ho : w.ownsRow base 54 1 (.slice (some ⟨r, 0, none⟩) ws.length c) ws.length (wds ws)) :
    BitO (w.setCell ⟨r, q, none⟩ (.int .u64 (n : Int))) base g (ws.set q n) ∧ Below base w (w.setCell ⟨r, q, none⟩ (.int .u64 (n : Int))) := by
  have hne := own_blk_ne ho hB (by decide)
  have hr := (ho.lt r rfl).1
  refine ⟨⟨some ⟨r, 0, none⟩, c, ?_, hbg, ?_⟩, (Below.refl _ _).setCell (p := ⟨r, q, none⟩) hr _⟩
  · rw [List.length_set]
    exact hB.far (p := ⟨r, q, none⟩) (fun h => hne (by simp [Value.ownBlock, h])) _
  · have := (ho.stored q (.int .u64 (n : Int))).1
    rw [wds_set] at this
    rw [List.length_set]
    exact this

theorem not_word (M : Nat) (hM : M < 18446744073709551616) : bits BinOp.xor IntKind.u64 (if IntKind.u64.signed = true then -1 else IntKind.u64.max) (M : Int) = ((18446744073709551615 - M : Nat) : Int) := by
  have e : (if IntKind.u64.signed = true then (-1 : Int) else IntKind.u64.max) = ((18446744073709551615 : Nat) : Int) := by rfl
  rw [e, bits_xor_u64_nat _ _ (by omega) hM]
  congr 1
  rw [show 18446744073709551615 - M = 18446744073709551616 - (M + 1) by omega]
  apply Nat.eq_of_testBit_eq
  intro i
  rw [Nat.testBit_xor, show (18446744073709551615 : Nat) = 2 ^ 64 - 1 from rfl, Nat.testBit_two_pow_sub_one, show (18446744073709551616 : Nat) = 2 ^ 64 from rfl, Nat.testBit_two_pow_sub_succ hM]
  by_cases h : i < 64
  · simp [h]
  · have h2 : M.testBit i = false := Nat.testBit_lt_two_pow (Nat.lt_of_lt_of_le hM (Nat.pow_le_pow_right (n := 2) (by omega) (show 64 ≤ i by omega)))
    simp [h, h2]

set_option maxHeartbeats 800000 in
theorem clear_any (base g v : Nat) (ws : List Nat) (w : World) (h : BitO w base g ws) (hs : Sm ws) (hv : v ≤ 1000) :
    Calls Tryd.prog 31 #[.pointer (some ⟨g, 0, none⟩), .int .i64 (v : Int)] w (BitPost base g (clearW ws v) w) := by
  have HH := Lib.hid h
  obtain ⟨A, c, h1, h0, h2⟩ := h
  have H1 := Lib.hid h1
  have H2 := Lib.hid h2
  have e0 := h1.cell 0
  simp at e0
  have hl := hs.2
  have HS := Lib.hid hs
  clear h1 h2 hs
  go_enter Tryd.func31, Tryd.ntmps31
  go_wp2_with fail
  refine (idx_any v hv w).mono ?_
  rintro e w1 ⟨rfl, rfl⟩
  have HC := Lib.hid (show clearW ws v = ws.set (v / 64) (ws.getD (v / 64) 0 &&& (2 ^ 64 - (2 ^ (v % 64) + 1))) from rfl)
  generalize hQ : v / 64 = q at *
  have z0 : (0 : Int) ≤ (q : Int) := by omega
  clear hQ
  by_cases hlt : q < ws.length
  · obtain ⟨r, cap, hv', hbr, hrl⟩ := H2.out.form (by omega)
    cases hv'
    have hcl := H2.out.cellAt q (by omega)
    obtain ⟨n, hn⟩ : ∃ n, ws[q]? = some n := ⟨_, List.getElem?_eq_getElem hlt⟩
    have hc : w1.cell? ⟨r, q, none⟩ = some (.int .u64 (n : Int)) := by rw [hcl]; simp [wds, hn]
    have fr := H2.out.frozenAt q
    have HL := Lib.hid (HS.out.at hn)
    have HN := Lib.hid (getD_at hn)
    clear hcl hn
    have hp := pow_lt v
    have hM0 : 0 < 2 ^ (v % 64) := Nat.two_pow_pos _
    generalize hM : 2 ^ (v % 64) = M at *
    have HM := Lib.hid hM
    clear hM
    have hq : bits BinOp.and .u64 (n : Int) ((18446744073709551615 - M : Nat) : Int) = ((n &&& (18446744073709551615 - M) : Nat) : Int) := bits_and_u64_nat _ _ HL.out (by omega)
    have hlt' : (q : Int) < (ws.length : Int) := by omega
    go_wp2_with fail
    refine wp_region_order (fun w' => w' = w1.drew) [0, 1, 2, 3, 4, 5, 6, 7, 8, 9, 10] [11, 12] (by kernel_rfl) (by kernel_rfl) rfl ?_
    iterate 8
      apply TakesThen.cons rfl rfl
      · intro w' hw'
        subst hw'
        go_simp
        with_reducible rfl
      simp only [Act.put, List.getElem_toArray, List.getElem_cons_succ, List.getElem_cons_zero, List.setIfInBounds_toArray, List.set_cons_zero, List.set_cons_succ]
    refine TakesThen.call 33 #[.int .i64 (v : Int)] (v := .int .u64 (M : Int)) rfl rfl ?_ ?_ ?_
    · intro w' hw'
      go_simp
    · intro w' hw'
      rw [← HM.out]
      exact mask_any v hv w'
    simp only [Act.put, List.getElem_toArray, List.getElem_cons_succ, List.getElem_cons_zero, List.setIfInBounds_toArray, List.set_cons_zero, List.set_cons_succ]
    refine TakesThen.cons (v := .int .u64 ((18446744073709551615 - M : Nat) : Int)) rfl rfl ?_ ?_
    · intro w' hw'
      go_simp
      exact (not_word M hp)
    simp only [Act.put, List.getElem_toArray, List.getElem_cons_succ, List.getElem_cons_zero, List.setIfInBounds_toArray, List.set_cons_zero, List.set_cons_succ]
    generalize hN2 : 18446744073709551615 - M = N2 at *
    apply TakesThen.cons rfl rfl
    · intro w' hw'
      go_simp
      with_reducible rfl
    simp only [Act.put, List.getElem_toArray, List.getElem_cons_succ, List.getElem_cons_zero, List.setIfInBounds_toArray, List.set_cons_zero, List.set_cons_succ]
    refine TakesThen.nil ?_
    have HST := Lib.hid (bitO_store (w := w1.drew) (q := q) (n := n &&& N2) H1.out.drew h0 H2.out)
    refine Chain.step rfl rfl (fun K hK => ?_)
    go_simp
    refine hK _ _ rfl ?_
    clear hK
    try simp only [Act.put, List.getElem_toArray, List.getElem_cons_succ, List.getElem_cons_zero, List.setIfInBounds_toArray, List.set_cons_zero, List.set_cons_succ]
    refine Chain.last (by kernel_rfl) rfl rfl (fun K hK => ?_)
    go_simp
    refine hK _ _ ?_
    clear hK
    refine NoPanic.normal ?_
    go_wp2_with fail
    go_end0
    refine ⟨rfl, ?_, (below_drew' (Below.refl _ _)).mono (by omega) |>.trans HST.out.2⟩
    rw [HC.out, HN.out, show 2 ^ 64 - (M + 1) = N2 by omega]
    exact HST.out.1
  · have HE := Lib.hid (show clearW ws v = ws by rw [HC.out]; exact List.set_eq_of_length_le (by omega))
    go_wp2_with fail
    go_end0
    rw [HE.out]
    exact ⟨rfl, HH.out, Below.refl _ _⟩
/-- a set made longer -/
theorem grow_row (ws : List Nat) (m : Nat) (_h : ws.length ≤ m) : splice (wds (List.replicate m 0)) 0 (wds ws) = wds (growW ws m) := by
  unfold splice growW wds
  simp [List.drop_replicate]
theorem info54 : (Tryd.prog.info? 54).map (fun i => (i.zero, i.size, i.bytes)) = some (some (.int .u64 0), 1, 8) := by kernel_rfl
theorem zero_row (m : Nat) : (madeCells (Value.int .u64 0).cells (m * 1)).toList = wds (List.replicate m 0) := by
  rw [show (Value.int .u64 0).cells = #[Value.int .u64 0] from rfl, toList_madeCells_one]
  unfold wds
  rw [List.map_replicate, Nat.mul_one]; rfl
theorem wds_one (ws : List Nat) : ∀ u ∈ wds ws, u.oneCell' = true := by
  intro u hu
  obtain ⟨n, _, rfl⟩ := List.mem_map.1 hu
  rfl
/-- behind the copy: the new row is the set's -/
theorem bitO_grown {w w1 w2 : World} {base g m : Nat} {ws : List Nat} {A : Option Addr} {c : Nat} (hB : Blk w g 53 #[.slice A ws.length c]) (hbg : base ≤ g)
    (hown : w1.ownsRow w.heap.size 54 1 (.slice (some ⟨w.heap.size, 0, none⟩) m m) m (wds (List.replicate m 0)))
    (hrow : w2.heap[w.heap.size]? = some (.cells (wds (growW ws m)).toArray 54 (0, 0))) (hb : Below w.heap.size w w2) (hbase : base ≤ w.heap.size) (hm : ws.length ≤ m) :
    Blk (w2.setCell ⟨g, 0, none⟩ (.slice (some ⟨w.heap.size, 0, none⟩) m m)) g 53 #[.slice (some ⟨w.heap.size, 0, none⟩) (growW ws m).length m] ∧ (w2.setCell ⟨g, 0, none⟩ (.slice (some ⟨w.heap.size, 0, none⟩) m m)).ownsRow base 54 1 (.slice (some ⟨w.heap.size, 0, none⟩) (growW ws m).length m) (growW ws m).length (wds (growW ws m)) ∧ Below base w (w2.setCell ⟨g, 0, none⟩ (.slice (some ⟨w.heap.size, 0, none⟩) m m)) := by
  have hgl := hB.lt
  have hlen : (growW ws m).length = m := by rw [growW_len]; omega
  have hown2 : w2.ownsRow base 54 1 (.slice (some ⟨w.heap.size, 0, none⟩) m m) m (wds (growW ws m)) := by
    refine ⟨by rw [wds_length, hlen, Nat.mul_one], ?_⟩
    rcases hown.2 with ⟨h1, _⟩ | ⟨g', cap, cur, hv, hg, hh, r1, r2, r3, r4⟩
    · cases h1
    · cases hv
      refine .inr ⟨w.heap.size, m, (wds (growW ws m)).toArray, rfl, hbase, hrow, r1, r2, ?_, ?_⟩
      · simp [wds_length, hlen]
      · simp only [Nat.mul_one]; exact List.take_of_length_le (by rw [wds_length, hlen]; omega)
  refine ⟨?_, ?_, (hb.mono hbase).setCell (p := ⟨g, 0, none⟩) hbg _⟩
  · rw [hlen]
    have := (hB.below hb hgl).set_ 0 (.slice (some ⟨w.heap.size, 0, none⟩) m m)
    simpa using this
  · rw [hlen]
    exact ownsRow_setCell_other hown2 (a := ⟨g, 0, none⟩) (by simp [Value.ownBlock]; omega) _

theorem run_copy_words (w : World) (B g m c : Nat) (ws : List Nat) (A : Option Addr) (hg : w.heap[g]? = some (.cells (wds (List.replicate m 0)).toArray 54 (0, 0))) (hr : Reads w B 1 A ws.length (wds ws)) (hm : ws.length ≤ m) :
    ∃ w', (Builtin.copy_ #[51, 51] 3 #[.slice (some ⟨g, 0, none⟩) m m, .slice A ws.length c]).run Tryd.prog w = .ok (.int .i64 (ws.length : Int)) w' ∧ w'.heap[g]? = some (.cells (wds (growW ws m)).toArray 54 (0, 0)) ∧ Below g w w' := by
  rw [← grow_row ws m hm]
  rcases Nat.eq_zero_or_pos ws.length with h0 | h0
  · obtain rfl : ws = [] := List.eq_nil_of_length_eq_zero h0
    refine ⟨w, run_copy_none (P := Tryd.prog) w 51 51 3 54 _ _ m m 0 c Tryd.underlying51 (by kernel_rfl) (by simp), ?_, Below.refl _ _⟩
    rw [hg]; simp [splice, wds]
  · obtain ⟨ad, rfl, _, hcell⟩ := hr.2 h0
    have hrun := run_copy_row (P := Tryd.prog) w 51 51 3 54 g 0 m m ad ws.length c (wds (List.replicate m 0)).toArray 54 (wds ws) Tryd.underlying51 (by kernel_rfl) hg (by rw [wds_length]; exact (Nat.min_eq_left hm).symm) hcell (by simp [wds_length]; omega) (wds_one ws)
    rw [wds_length] at hrun
    refine ⟨_, hrun, ?_, below_setRow (Below.refl _ _) (Nat.le_refl _) _⟩
    rw [setRow_heap w g _ _ 54 _ hg]
    simp [splice, wds_length]

set_option maxHeartbeats 1600000 in
theorem add_any (base g v : Nat) (ws : List Nat) (w : World) (h : BitO w base g ws) (hs : Sm ws) (hv : v ≤ 1000) :
    Calls Tryd.prog 30 #[.pointer (some ⟨g, 0, none⟩), .int .i64 (v : Int)] w (BitPost base g (addW ws v) w) := by
  obtain ⟨A, c, h1, h0, h2⟩ := h
  have H1 := Lib.hid h1
  have H2 := Lib.hid h2
  have e0 := h1.cell 0
  simp at e0
  have hgl := h1.lt
  have hl := hs.2
  have HS := Lib.hid hs
  clear h1 h2 hs
  go_enter Tryd.func30, Tryd.ntmps30
  go_wp2_with fail
  refine (idx_any v hv w).mono ?_
  rintro e w1 ⟨rfl, rfl⟩
  have HC := Lib.hid (show addW ws v = (growW ws (v / 64 + 1)).set (v / 64) (ws.getD (v / 64) 0 ||| 2 ^ (v % 64)) from rfl)
  have HWO := Lib.hid (words_any v hv)
  generalize hQ : v / 64 = q at *
  have z0 : (0 : Int) ≤ (q : Int) := by omega
  have hq16 : q ≤ 16 := by omega
  clear hQ
  have hp := pow_lt v
  generalize hM : 2 ^ (v % 64) = M at *
  have HM := Lib.hid hM
  clear hM
  by_cases hlt : q < ws.length
  · obtain ⟨r, cap, hv', hbr, hrl⟩ := H2.out.form (by omega)
    cases hv'
    have hcl := H2.out.cellAt q (by omega)
    obtain ⟨n, hn⟩ : ∃ n, ws[q]? = some n := ⟨_, List.getElem?_eq_getElem hlt⟩
    have hc : w1.cell? ⟨r, q, none⟩ = some (.int .u64 (n : Int)) := by rw [hcl]; simp [wds, hn]
    have fr := H2.out.frozenAt q
    have HL := Lib.hid (HS.out.at hn)
    have HN := Lib.hid (getD_at hn)
    clear hcl hn
    have hq : bits BinOp.or .u64 (n : Int) (M : Int) = ((n ||| M : Nat) : Int) := bits_or_u64_nat _ _ HL.out hp
    have hlt' : (q : Int) < (ws.length : Int) := by omega
    have HST := Lib.hid (bitO_store (w := w1.drew) (q := q) (n := n ||| M) H1.out.drew h0 H2.out)
    have HBB := Lib.hid (show Below base w1 w1.drew from ((below_drew' (Below.refl _ _)).mono (by omega)))
    go_wp2_with fail
    refine wp_region_order (fun w' => w' = w1.drew) [0, 1, 2, 3, 4, 5, 6, 7, 8, 9] [10, 11] (by kernel_rfl) (by kernel_rfl) rfl ?_
    iterate 8
      apply TakesThen.cons rfl rfl
      · intro w' hw'
        subst hw'
        go_simp
        with_reducible rfl
      simp only [Act.put, List.getElem_toArray, List.getElem_cons_succ, List.getElem_cons_zero, List.setIfInBounds_toArray, List.set_cons_zero, List.set_cons_succ]
    refine TakesThen.call 33 #[.int .i64 (v : Int)] (v := .int .u64 (M : Int)) rfl rfl ?_ ?_ ?_
    · intro w' hw'
      go_simp
    · intro w' hw'
      rw [← HM.out]
      exact mask_any v hv w'
    simp only [Act.put, List.getElem_toArray, List.getElem_cons_succ, List.getElem_cons_zero, List.setIfInBounds_toArray, List.set_cons_zero, List.set_cons_succ]
    apply TakesThen.cons rfl rfl
    · intro w' hw'
      go_simp
      with_reducible rfl
    simp only [Act.put, List.getElem_toArray, List.getElem_cons_succ, List.getElem_cons_zero, List.setIfInBounds_toArray, List.set_cons_zero, List.set_cons_succ]
    refine TakesThen.nil ?_
    refine Chain.step rfl rfl (fun K hK => ?_)
    go_simp
    refine hK _ _ rfl ?_
    clear hK
    try simp only [Act.put, List.getElem_toArray, List.getElem_cons_succ, List.getElem_cons_zero, List.setIfInBounds_toArray, List.set_cons_zero, List.set_cons_succ]
    refine Chain.last (by kernel_rfl) rfl rfl (fun K hK => ?_)
    go_simp
    refine hK _ _ ?_
    clear hK
    refine NoPanic.normal ?_
    go_wp2_with fail
    go_end0
    refine ⟨rfl, ?_, HBB.out.trans HST.out.2⟩
    rw [HC.out, HN.out, growW_le _ _ (by omega)]
    exact HST.out.1
  · obtain ⟨i0, hi0, hz0, hz1, hz2⟩ := info_parts info54
    obtain ⟨w2, hr, hown, hgr⟩ := run_makeSlice_full (P := Tryd.prog) w1 w1.heap.size 51 54 i0 (.int .u64 0) 1 Tryd.underlying51 hi0 hz0 hz1 .i64 .i64 (q + 1) (by omega) (by rw [hz2]; omega) (by simp only [maxLen]; omega) (Nat.le_refl _)
    rw [zero_row] at hown
    have hb2 : Below w1.heap.size w1 w2 := ⟨hgr.os, hgr.tape, hgr.output, hgr.size, fun k hk => hgr.block k hk (by simp)⟩
    have hr' : (Instr.makeSlice 51 (.int .i64 ((q : Int) + 1)) (.int .i64 ((q : Int) + 1))).run Tryd.prog w1 = .ok (.slice (some ⟨w1.heap.size, 0, none⟩) (q + 1) (q + 1)) w2 := hr
    have hrow : w2.heap[w1.heap.size]? = some (.cells (wds (List.replicate (q + 1) 0)).toArray 54 (0, 0)) := by
      rcases hown.2 with ⟨h1, _⟩ | ⟨g', cap, cur, hv2, hg, hh, r1, r2, r3, r4⟩
      · cases h1
      · cases hv2
        have e1 : cur.toList = wds (List.replicate (q + 1) 0) := by
          rw [← r4]; exact (List.take_of_length_le (by rw [Array.length_toList]; omega)).symm
        rw [← e1]; exact hh
    clear hr hgr hz0 hz1 hz2 hi0
    have HO2 := Lib.hid hown
    have HB2 := Lib.hid hb2
    have HROW := Lib.hid hrow
    have hf0 := (H1.out.below hb2 hgl).frozen 0
    have e2 := cell_bel e0 hb2
    have hb2' := hb2
    clear hown hb2 hrow
    go_wp2_with fail
    refine (HWO.out w1).mono ?_
    rintro e w0 ⟨rfl, rfl⟩
    obtain ⟨w3, hcp, hg3, hb3'⟩ := run_copy_words w2 w0.heap.size w0.heap.size (q + 1) c ws A HROW.out ((Reads.of_own H2.out).below hb2') (by omega)
    have hb3 := Lib.hid (HB2.out.trans hb3')
    have e3 := cell_bel e0 hb3.out
    have hf3 := (H1.out.below hb3.out hgl).frozen 0
    have hG := bitO_grown H1.out h0 HO2.out hg3 hb3.out (by omega) (show ws.length ≤ q + 1 by omega)
    have HC2 := Lib.hid (show addW ws v = (growW ws (q + 1)).set q ((growW ws (q + 1)).getD q 0 ||| M) by rw [HC.out, growW_getD])
    have hlen : (growW ws (q + 1)).length = q + 1 := by rw [growW_len]; omega
    have HLT : Hid (∀ x ∈ growW ws (q + 1), x < 18446744073709551616) := Lib.hid (by
      intro x hx
      rcases List.mem_append.1 hx with h2 | h2
      · exact HS.out.1 x h2
      · have := List.eq_of_mem_replicate h2; omega)
    generalize growW ws (q + 1) = ws' at *
    obtain ⟨hG1, hG2, hG3⟩ := hG
    have HG1 := Lib.hid hG1
    have HG2 := Lib.hid hG2
    have HG3 := Lib.hid hG3
    rw [hlen] at HG1 HG2
    clear hb2' hb3' hg3 hG1 hG2 hG3
    go_wp2_with fail
    generalize w3.setCell ⟨g, 0, none⟩ (.slice (some ⟨w0.heap.size, 0, none⟩) (q + 1) (q + 1)) = w4 at *
    generalize hrr : w0.heap.size = r at *
    have e4 := HG1.out.cell 0
    simp at e4
    have hcl := HG2.out.cellAt q (by omega)
    obtain ⟨n, hn⟩ : ∃ n, ws'[q]? = some n := ⟨_, List.getElem?_eq_getElem (by omega)⟩
    have hc : w4.cell? ⟨r, q, none⟩ = some (.int .u64 (n : Int)) := by rw [hcl]; simp [wds, hn]
    have fr := HG2.out.frozenAt q
    have HL := Lib.hid (HLT.out n (List.mem_of_getElem? hn))
    have HN := Lib.hid (getD_at hn)
    clear hcl hn e0 e2 e3 hr' hcp hf3
    have hq : bits BinOp.or .u64 (n : Int) (M : Int) = ((n ||| M : Nat) : Int) := bits_or_u64_nat _ _ HL.out hp
    have hlt' : (q : Int) < ((q : Int) + 1) := by omega
    have HST := Lib.hid (bitO_store (w := w4.drew) (ws := ws') (c := q + 1) (q := q) (n := n ||| M) (by rw [hlen]; exact HG1.out.drew) h0 (by rw [hlen]; exact HG2.out))
    have HBB := Lib.hid (show Below base w0 w4.drew from HG3.out.drew)
    clear HG3 hrr
    refine wp_region_order (fun w' => w' = w4.drew) [0, 1, 2, 3, 4, 5, 6, 7, 8, 9] [10, 11] (by kernel_rfl) (by kernel_rfl) rfl ?_
    iterate 8
      apply TakesThen.cons rfl rfl
      · intro w' hw'
        subst hw'
        go_simp
        with_reducible rfl
      simp only [Act.put, List.getElem_toArray, List.getElem_cons_succ, List.getElem_cons_zero, List.setIfInBounds_toArray, List.set_cons_zero, List.set_cons_succ]
    refine TakesThen.call 33 #[.int .i64 (v : Int)] (v := .int .u64 (M : Int)) rfl rfl ?_ ?_ ?_
    · intro w' hw'
      go_simp
    · intro w' hw'
      rw [← HM.out]
      exact mask_any v hv w'
    simp only [Act.put, List.getElem_toArray, List.getElem_cons_succ, List.getElem_cons_zero, List.setIfInBounds_toArray, List.set_cons_zero, List.set_cons_succ]
    apply TakesThen.cons rfl rfl
    · intro w' hw'
      go_simp
      with_reducible rfl
    simp only [Act.put, List.getElem_toArray, List.getElem_cons_succ, List.getElem_cons_zero, List.setIfInBounds_toArray, List.set_cons_zero, List.set_cons_succ]
    refine TakesThen.nil ?_
    refine Chain.step rfl rfl (fun K hK => ?_)
    go_simp
    refine hK _ _ rfl ?_
    clear hK
    try simp only [Act.put, List.getElem_toArray, List.getElem_cons_succ, List.getElem_cons_zero, List.setIfInBounds_toArray, List.set_cons_zero, List.set_cons_succ]
    refine Chain.last (by kernel_rfl) rfl rfl (fun K hK => ?_)
    go_simp
    refine hK _ _ ?_
    clear hK
    refine NoPanic.normal ?_
    go_wp2_with fail
    go_end0
    refine ⟨rfl, ?_, HBB.out.trans HST.out.2⟩
    rw [HC2.out, HN.out]
    exact HST.out.1
end Go.Proofs.YtckdcceglmlinaaDoor
