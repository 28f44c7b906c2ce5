/- The walks of the union of two sets of bits, and of the package's OrBits. Condition: words below 2^64, at most 5 of them. -/
import Derived.Test.YtckdcceglmlinaaDoorLawB
namespace Go.Proofs.YtckdcceglmlinaaDoor
open Go.RowKit
set_option linter.unusedSimpArgs false

/-- the length without the zero words at the end -/
def MinLen (ws : List Nat) (w : World) (e : Ending) (w' : World) : Prop := ∃ m : Nat, e = .returned (.int .i64 (m : Int)) ∧ m ≤ ws.length ∧ (∀ j, m ≤ j → ws.getD j 0 = 0) ∧ w' = w
theorem minLen_any (g : Nat) (ws : List Nat) (w : World) (h : BitR w g ws) (hs : Sm ws) : Calls Tryd.prog 39 #[.pointer (some ⟨g, 0, none⟩)] w (MinLen ws w) := by
  obtain ⟨A, c, h1, h2⟩ := h
  have H2 := Lib.hid h2
  have e0 := h1.cell 0
  simp at e0
  have hl := hs.2
  clear h1 h2 hs
  go_enter Tryd.func39, Tryd.ntmps39
  go_wp2_with fail
  go_loop [3] (fun i => ∃ k : Nat, k ≤ ws.length ∧ i = .int .i64 k ∧ Hid (∀ j, k ≤ j → ws.getD j 0 = 0)) (fun i => (intOf i).toNat)
  case atStart => exact ⟨ws.length, Nat.le_refl _, rfl, Lib.hid (fun j hj => by rw [List.getD_eq_getElem?_getD, List.getElem?_eq_none hj]; rfl)⟩
  case round =>
    obtain ⟨k, hk, rfl, HK⟩ := hrel
    by_cases h0 : k = 0
    · subst h0
      go_wp2_with fail
      go_ret
      exact ⟨0, rfl, Nat.zero_le _, HK.out, rfl⟩
    · obtain ⟨q, rfl⟩ : ∃ q, k = q + 1 := ⟨k - 1, by omega⟩
      obtain ⟨b, off, u, rfl, _, hu, hc⟩ := H2.out.at1 (k := q) (by omega)
      obtain ⟨x, hx, rfl⟩ := wds_at hu
      have HX := Lib.hid (getD_at hx)
      have hpos : (0 : Int) < ((q + 1 : Nat) : Int) := by omega
      have hsub : IntKind.i64.wrap (((q + 1 : Nat) : Int) - 1) = (q : Int) := by rw [IntKind.wrap_i64]; omega
      have hqn : (q : Int) < (ws.length : Int) := by omega
      clear hu hx
      generalize hK1 : ((q + 1 : Nat) : Int) = K1 at *
      by_cases hz : x = 0
      · subst hz
        go_wp2_with fail
        go_round
        case rel => exact ⟨q, by omega, rfl, Lib.hid (fun j hj => by
          by_cases e : j = q
          · subst e; exact HX.out
          · exact HK.out j (by omega))⟩
        case measure => simp [intOf]; omega
      · have hx1 : ((x : Int) != 0) = true := by rw [bne_iff_ne]; omega
        go_wp2_with fail
        go_ret
        exact ⟨q + 1, by rw [hK1]; rfl, hk, HK.out, rfl⟩
theorem intMax_any (a b : Nat) (w : World) : Calls Tryd.prog 40 #[.int .i64 (a : Int), .int .i64 (b : Int)] w (fun e w' => e = .returned (.int .i64 ((max a b : Nat) : Int)) ∧ w' = w) := by
  go_enter Tryd.func40, Tryd.ntmps40
  by_cases h : b < a
  · have h' : (b : Int) < (a : Int) := by omega
    go_wp2_with fail
    go_ret
    exact ⟨by rw [Nat.max_eq_left (by omega)]; rfl, rfl⟩
  · have h' : ¬ (b : Int) < (a : Int) := by omega
    go_wp2_with fail
    go_ret
    exact ⟨by rw [Nat.max_eq_right (by omega)]; rfl, rfl⟩
/-- another set, apart from a row -/
def Oth (w : World) (g2 : Nat) (ws2 : List Nat) (r : Nat) : Prop := ∃ A c, Blk w g2 53 #[.slice A ws2.length c] ∧ Reads w w.heap.size 1 A ws2.length (wds ws2) ∧ g2 ≠ r ∧ (∀ a, A = some a → a.block ≠ r)
theorem reads_far {w : World} {B n r k : Nat} {A : Option Addr} {xs : List Value} (h : Reads w B 1 A n xs) (hne : ∀ a, A = some a → a.block ≠ r) (u : Value) : Reads (w.setCell ⟨r, k, none⟩ u) B 1 A n xs := by
  refine ⟨h.1, fun hn => ?_⟩
  obtain ⟨ad, hA, hb, hc⟩ := h.2 hn
  refine ⟨ad, hA, hb, fun j u' hj => ?_⟩
  rw [World.cell?_setCell_other w _ _ u (fun h => hne ad hA (by rw [← block_of_add ad j, ← h]))]
  exact hc j u' hj
theorem oth_store {w : World} {g2 r : Nat} {ws2 : List Nat} (h : Oth w g2 ws2 r) (k : Nat) (u : Value) : Oth (w.setCell ⟨r, k, none⟩ u) g2 ws2 r := by
  obtain ⟨A, c, h1, h2, h3, h4⟩ := h
  refine ⟨A, c, h1.far (p := ⟨r, k, none⟩) h3 u, ?_, h3, h4⟩
  have := reads_far (k := k) h2 h4 u
  exact this.more (by simp)
/-- the union -/
def OrPost (base g : Nat) (ws ws2 : List Nat) (w : World) (e : Ending) (w' : World) : Prop := ∃ F, e = .returned (.tuple #[]) ∧ (∀ j, F.getD j 0 = ws.getD j 0 ||| ws2.getD j 0) ∧ Sm F ∧ BitO w' base g F ∧ Below base w w'
set_option maxRecDepth 20000 in
set_option maxHeartbeats 4000000 in
theorem or_any (base g g2 : Nat) (ws ws2 : List Nat) (w1 W0 : World) (h1 : BitO w1 base g ws) (hb1 : Below w1.heap.size w1 W0) (h2 : BitO W0 w1.heap.size g2 ws2) (hs : Sm ws) (hs2 : Sm ws2) :
    Calls Tryd.prog 29 #[.pointer (some ⟨g, 0, none⟩), .pointer (some ⟨g2, 0, none⟩)] W0 (OrPost base g ws ws2 W0) := by
  have HM1 := Lib.hid (minLen_any g ws W0 (h1.ext hb1).read hs)
  have HM2 := Lib.hid (minLen_any g2 ws2 W0 h2.read hs2)
  obtain ⟨A1, c1, hB1, hbg, ho1⟩ := h1
  obtain ⟨A2, c2, hB2, hbg2, ho2⟩ := h2
  have hgl := hB1.lt
  have hW := hb1.size
  have HOW := Lib.hid (ownsRow_ext ho1 hb1)
  have HBW := Lib.hid (hB1.below hb1 hgl)
  have HBY := Lib.hid hB2
  have HRY := Lib.hid (Reads.of_own ho2)
  have HAL := Lib.hid (show ∀ a, A2 = some a → w1.heap.size ≤ a.block ∧ a.block < W0.heap.size from fun a ha => ho2.lt a.block (by subst ha; rfl))
  have HA1 := Lib.hid (show ∀ a, A1 = some a → a.block < w1.heap.size from fun a ha => (ho1.lt a.block (by subst ha; rfl)).2)
  have hg2l := hB2.lt
  have hl := hs.2
  have hl2 := hs2.2
  have HS := Lib.hid hs
  have HS2 := Lib.hid hs2
  have e1 := HBW.out.cell 0
  simp at e1
  clear hB1 hB2 ho1 ho2 hs hs2 hb1
  go_enter Tryd.func29, Tryd.ntmps29
  go_wp2_with fail
  refine HM1.out.mono ?_
  rintro e wx ⟨m1, rfl, hm1, _, rfl⟩
  go_wp2_with fail
  refine HM2.out.mono ?_
  rintro e wx ⟨m2, rfl, hm2, hz2, rfl⟩
  have HZ2 := Lib.hid hz2
  clear hz2 HM1 HM2
  go_wp2_with fail
  refine (intMax_any m1 m2 _).mono ?_
  rintro e wx2 ⟨rfl, rfl⟩
  by_cases hgrow : ws.length < max m1 m2
  · obtain ⟨M, hM⟩ : ∃ M, M = max m1 m2 := ⟨_, rfl⟩
    rw [← hM] at hgrow ⊢
    have hMm : M = m2 := by omega
    subst hMm
    clear hM
    obtain ⟨i0, hi0, hz0, hz1, hz2⟩ := info_parts info54
    obtain ⟨w2, hr, hown, hgr⟩ := run_makeSlice_full (P := Tryd.prog) wx2 wx2.heap.size 51 54 i0 (.int .u64 0) 1 Tryd.underlying51 hi0 hz0 hz1 .i64 .i64 M (by omega) (by rw [hz2]; omega) (by simp only [maxLen]; omega) (Nat.le_refl _)
    rw [zero_row] at hown
    have hb2 : Below wx2.heap.size wx2 w2 := ⟨hgr.os, hgr.tape, hgr.output, hgr.size, fun k hk => hgr.block k hk (by simp)⟩
    have hrow : w2.heap[wx2.heap.size]? = some (.cells (wds (List.replicate M 0)).toArray 54 (0, 0)) := by
      rcases hown.2 with ⟨h1, _⟩ | ⟨g', cap, cur, hv2, hg, hh, r1, r2, r3, r4⟩
      · cases h1
      · cases hv2
        have e1 : cur.toList = wds (List.replicate M 0) := by
          rw [← r4]; exact (List.take_of_length_le (by rw [Array.length_toList]; omega)).symm
        rw [← e1]; exact hh
    clear hgr hz0 hz1 hz2 hi0
    obtain ⟨w3, hcp, hg3, hb3'⟩ := run_copy_words w2 wx2.heap.size wx2.heap.size M c1 ws A1 hrow ((Reads.of_own HOW.out).below hb2) (by omega)
    have hb3 := hb2.trans hb3'
    have e2 := cell_bel e1 hb2
    have e3 := cell_bel e1 hb3
    have hf3 := (HBW.out.below hb3 (by omega)).frozen 0
    have hG := bitO_grown HBW.out hbg hown hg3 hb3 (by omega) (show ws.length ≤ M by omega)
    have hlen : (growW ws M).length = M := by rw [growW_len]; omega
    have hFL : ∀ x ∈ growW ws M, x < 18446744073709551616 := by
      intro x hx
      rcases List.mem_append.1 hx with h2 | h2
      · exact HS.out.1 x h2
      · have := List.eq_of_mem_replicate h2; omega
    have hF0 : ∀ j, (growW ws M).getD j 0 = if j < 0 then ws.getD j 0 ||| ws2.getD j 0 else ws.getD j 0 := fun j => by rw [if_neg (by omega), growW_getD]
    have hOT : Oth (w3.setCell ⟨g, 0, none⟩ (.slice (some ⟨wx2.heap.size, 0, none⟩) M M)) g2 ws2 wx2.heap.size := by
      refine ⟨A2, c2, (HBY.out.below hb3 hg2l).far (p := ⟨g, 0, none⟩) (by show g2 ≠ g; omega) _, ?_, by omega, fun a ha => by have := (HAL.out a ha).2; omega⟩
      have := reads_far (k := 0) (r := g) (HRY.out.ext hb3) (fun a ha => by have := (HAL.out a ha).1; omega) (.slice (some ⟨wx2.heap.size, 0, none⟩) M M)
      exact this.more (by simp)
    have HF0 := Lib.hid hF0
    clear hF0
    have HFL := Lib.hid hFL
    have HOT1 := Lib.hid hOT
    generalize growW ws M = F0 at *
    obtain ⟨hG1, hG2, hG3⟩ := hG
    rw [hlen] at hG1 hG2
    have HB0 := Lib.hid hG1
    have HO0 := Lib.hid hG2
    have HBE := Lib.hid hG3
    have hF0 : F0.length = M := hlen
    have HDR := Lib.hid hr
    have HCP := Lib.hid hcp
    have hr' := HDR.out
    have hcp' := HCP.out
    clear hG1 hG2 hG3 hFL hOT hlen hb2 hb3' hrow hown hg3 hr hcp HOW HBW HRY HBY hb3
    have hgrow' : (ws.length : Int) < (M : Int) := by omega
    go_wp2_with fail
    clear hr' hcp' HDR HCP e2 e3 hf3 e1
    generalize w3.setCell ⟨g, 0, none⟩ (.slice (some ⟨wx2.heap.size, 0, none⟩) M M) = w4 at *
    generalize wx2.heap.size = r0 at *
    have HOT := Lib.hid (show ∀ r, some (⟨r0, 0, none⟩ : Addr) = some ⟨r, 0, none⟩ → Oth w4 g2 ws2 r from fun r hr => by cases hr; exact HOT1.out)
    clear HOT1
    go_loopw [8] (fun i wr => ∃ (k : Nat) (F : List Nat), k ≤ M ∧ i = .int .i64 k ∧ F.length = M ∧ Hid (∀ j, F.getD j 0 = if j < k then ws.getD j 0 ||| ws2.getD j 0 else ws.getD j 0) ∧ Hid (∀ x ∈ F, x < 18446744073709551616) ∧
      Hid (Blk wr g 53 #[.slice (some ⟨r0, 0, none⟩ : Option Addr) M M]) ∧ Hid (wr.ownsRow base 54 1 (.slice (some ⟨r0, 0, none⟩ : Option Addr) M M) M (wds F)) ∧ Hid (Below base wx2 wr) ∧ Hid (∀ r, (some ⟨r0, 0, none⟩ : Option Addr) = some ⟨r, 0, none⟩ → Oth wr g2 ws2 r)) (fun i _ => M - (intOf i).toNat)
    case atStart => exact ⟨0, F0, Nat.zero_le _, rfl, hF0, HF0, HFL, HB0, HO0, HBE, HOT⟩
    case round =>
      clear HB0 HO0 HBE HOT HF0 HFL hF0 F0
      obtain ⟨k, F, hk, rfl, hn, HF, HFL, HB, HO, HBE, HOT⟩ := hrel
      by_cases hlt : k < M
      · obtain ⟨r, cap, hv', hbr, hrl⟩ := HO.out.form (by omega)
        cases hv'
        obtain ⟨A2, c2, hB2, hr2, hg2, hne⟩ := HOT.out r0 rfl
        obtain ⟨b, off, u, rfl, _, hu, hc2⟩ := hr2.at1 (k := k) (by omega)
        obtain ⟨y, hy, rfl⟩ := wds_at hu
        have HY := Lib.hid (show ws2.getD k 0 = y from getD_at hy)
        have hyl := Lib.hid (HS2.out.at hy)
        have e2 := hB2.cell 0
        simp at e2
        have e1 := HB.out.cell 0
        simp at e1
        have hcl := HO.out.cellAt k (by omega)
        obtain ⟨x, hx⟩ : ∃ x, F[k]? = some x := ⟨_, List.getElem?_eq_getElem (by omega)⟩
        have hc : wr.cell? ⟨r0, k, none⟩ = some (.int .u64 (x : Int)) := by rw [hcl]; simp [wds, hx]
        have fr := HO.out.frozenAt k
        have HX := Lib.hid (getD_at hx)
        have hxl := Lib.hid (HFL.out x (List.mem_of_getElem? hx))
        have hq : bits BinOp.or .u64 (x : Int) (y : Int) = ((x ||| y : Nat) : Int) := bits_or_u64_nat _ _ hxl.out hyl.out
        have hkn : (k : Int) < ((M : Nat) : Int) := by omega
        have hk2 : (k : Int) < (ws2.length : Int) := by omega
        have hgr : g ≠ r0 := fun h => own_blk_ne HO.out HB.out (by decide) (by simp [Value.ownBlock, h])
        have HB5 := Lib.hid (show Blk (wr.drew.setCell ⟨r0, k, none⟩ (.int .u64 ((x ||| y : Nat) : Int))) g 53 #[.slice (some ⟨r0, 0, none⟩) M M] from Blk.far (p := ⟨r0, k, none⟩) HB.out hgr _)
        have HO5 := Lib.hid (show (wr.drew.setCell ⟨r0, k, none⟩ (.int .u64 ((x ||| y : Nat) : Int))).ownsRow base 54 1 (.slice (some ⟨r0, 0, none⟩) M M) M (wds (F.set k (x ||| y))) by
          have := (World.ownsRow.stored (w := wr.drew) HO.out k (.int .u64 ((x ||| y : Nat) : Int))).1
          rw [wds_set] at this
          exact this)
        have HBE5 := Lib.hid (show Below base wx2 (wr.drew.setCell ⟨r0, k, none⟩ (.int .u64 ((x ||| y : Nat) : Int))) from (HBE.out.drew).setCell (p := ⟨r0, k, none⟩) hbr _)
        have HOT5 := Lib.hid (show Oth (wr.drew.setCell ⟨r0, k, none⟩ (.int .u64 ((x ||| y : Nat) : Int))) g2 ws2 r0 from oth_store (w := wr.drew) ⟨_, c2, hB2, hr2, hg2, hne⟩ k _)
        clear hcl hx hu hy hr2 hB2 hgr
        go_wp2_with fail
        refine wp_region_order (fun w' => w' = wr.drew) [0, 1, 2, 3, 4, 5, 6, 7, 8, 9, 10, 11, 12, 13, 14] [15, 16] (by kernel_rfl) (by kernel_rfl) rfl ?_
        iterate 15
          apply TakesThen.cons rfl rfl
          · intro w' hw'
            subst hw'
            go_simp
            with_reducible rfl
          simp only [Act.put, List.getElem_toArray, List.getElem_cons_succ, List.getElem_cons_zero, List.setIfInBounds_toArray, List.set_cons_zero, List.set_cons_succ]
        refine TakesThen.nil ?_
        refine Chain.step rfl rfl (fun K hK => ?_)
        go_simp
        refine hK _ _ rfl ?_
        clear hK
        try simp only [Act.put, List.getElem_toArray, List.getElem_cons_succ, List.getElem_cons_zero, List.setIfInBounds_toArray, List.set_cons_zero, List.set_cons_succ]
        refine Chain.last (by kernel_rfl) rfl rfl (fun K hK => ?_)
        go_simp
        refine hK _ _ ?_
        clear hK
        refine NoPanic.normal ?_
        go_wp2_with fail
        go_roundw
        case rel =>
          refine ⟨k + 1, F.set k (x ||| y), by omega, by go_num, by rw [List.length_set]; exact hn, Lib.hid (fun j => ?_), Lib.hid (fun z hz => ?_), HB5, HO5, HBE5, Lib.hid (fun r' hr' => by cases hr'; exact HOT5.out)⟩
          · rw [getD_set _ _ _ _ (by omega)]
            have hFj := HF.out j
            by_cases e : k = j
            · subst e
              rw [if_pos rfl, if_pos (by omega)]
              rw [if_neg (by omega), HX.out] at hFj
              rw [hFj, HY.out]
            · rw [if_neg e, hFj]
              by_cases h' : j < k
              · rw [if_pos h', if_pos (by omega)]
              · rw [if_neg h', if_neg (by omega)]
          · rcases List.mem_or_eq_of_mem_set hz with h | h
            · exact HFL.out z h
            · rw [h]; exact Nat.or_lt_two_pow (n := 64) hxl.out hyl.out
        case measure => simp [intOf]; omega
      · have hkn : k = M := by omega
        subst hkn
        go_wp2_with fail
        go_end0
        refine ⟨F, rfl, fun j => ?_, ⟨HFL.out, by omega⟩, ⟨_, _, by rw [hn]; exact HB.out, hbg, by rw [hn]; exact HO.out⟩, HBE.out⟩
        rw [HF.out j]
        by_cases h' : j < k
        · rw [if_pos h']
        · rw [if_neg h', HZ2.out j (by omega), Nat.or_zero]
  · have hgrow' : ¬ (ws.length : Int) < ((max m1 m2 : Nat) : Int) := by omega
    have HB0 := HBW
    have HO0 := HOW
    have HBE := Lib.hid (Below.refl base wx2)
    have HF0 := Lib.hid (show ∀ j, ws.getD j 0 = if j < 0 then ws.getD j 0 ||| ws2.getD j 0 else ws.getD j 0 from fun j => by rw [if_neg (by omega)])
    have HFL := Lib.hid HS.out.1
    have hF0 : ws.length = ws.length := rfl
    have HOT := Lib.hid (show ∀ r, A1 = some ⟨r, 0, none⟩ → Oth wx2 g2 ws2 r from fun r hr => ⟨A2, c2, HBY.out, HRY.out, by have := HA1.out _ hr; simp only at this; omega, fun a ha => by have h1 := HA1.out _ hr; have h2 := (HAL.out a ha).1; simp only at h1; omega⟩)
    clear HBW HOW HBY HRY
    go_wp2_with fail
    go_loopw [8] (fun i wr => ∃ (k : Nat) (F : List Nat), k ≤ m2 ∧ i = .int .i64 k ∧ F.length = ws.length ∧ Hid (∀ j, F.getD j 0 = if j < k then ws.getD j 0 ||| ws2.getD j 0 else ws.getD j 0) ∧ Hid (∀ x ∈ F, x < 18446744073709551616) ∧
      Hid (Blk wr g 53 #[.slice (A1) ws.length c1]) ∧ Hid (wr.ownsRow base 54 1 (.slice (A1) ws.length c1) ws.length (wds F)) ∧ Hid (Below base wx2 wr) ∧ Hid (∀ r, (A1) = some ⟨r, 0, none⟩ → Oth wr g2 ws2 r)) (fun i _ => m2 - (intOf i).toNat)
    case atStart => exact ⟨0, ws, Nat.zero_le _, rfl, rfl, HF0, HFL, HB0, HO0, HBE, HOT⟩
    case round =>
      clear HB0 HO0 HBE HOT HF0 HFL
      obtain ⟨k, F, hk, rfl, hn, HF, HFL, HB, HO, HBE, HOT⟩ := hrel
      by_cases hlt : k < m2
      · obtain ⟨r, cap, hv', hbr, hrl⟩ := HO.out.form (by omega)
        cases hv'
        obtain ⟨A2, c2, hB2, hr2, hg2, hne⟩ := HOT.out r rfl
        obtain ⟨b, off, u, rfl, _, hu, hc2⟩ := hr2.at1 (k := k) (by omega)
        obtain ⟨y, hy, rfl⟩ := wds_at hu
        have HY := Lib.hid (show ws2.getD k 0 = y from getD_at hy)
        have hyl := Lib.hid (HS2.out.at hy)
        have e2 := hB2.cell 0
        simp at e2
        have e1 := HB.out.cell 0
        simp at e1
        have hcl := HO.out.cellAt k (by omega)
        obtain ⟨x, hx⟩ : ∃ x, F[k]? = some x := ⟨_, List.getElem?_eq_getElem (by omega)⟩
        have hc : wr.cell? ⟨r, k, none⟩ = some (.int .u64 (x : Int)) := by rw [hcl]; simp [wds, hx]
        have fr := HO.out.frozenAt k
        have HX := Lib.hid (getD_at hx)
        have hxl := Lib.hid (HFL.out x (List.mem_of_getElem? hx))
        have hq : bits BinOp.or .u64 (x : Int) (y : Int) = ((x ||| y : Nat) : Int) := bits_or_u64_nat _ _ hxl.out hyl.out
        have hkn : (k : Int) < ((ws.length : Nat) : Int) := by omega
        have hk2 : (k : Int) < (ws2.length : Int) := by omega
        have hgr : g ≠ r := fun h => own_blk_ne HO.out HB.out (by decide) (by simp [Value.ownBlock, h])
        have HB5 := Lib.hid (show Blk (wr.drew.setCell ⟨r, k, none⟩ (.int .u64 ((x ||| y : Nat) : Int))) g 53 #[.slice (some ⟨r, 0, none⟩) ws.length c1] from Blk.far (p := ⟨r, k, none⟩) HB.out hgr _)
        have HO5 := Lib.hid (show (wr.drew.setCell ⟨r, k, none⟩ (.int .u64 ((x ||| y : Nat) : Int))).ownsRow base 54 1 (.slice (some ⟨r, 0, none⟩) ws.length c1) ws.length (wds (F.set k (x ||| y))) by
          have := (World.ownsRow.stored (w := wr.drew) HO.out k (.int .u64 ((x ||| y : Nat) : Int))).1
          rw [wds_set] at this
          exact this)
        have HBE5 := Lib.hid (show Below base wx2 (wr.drew.setCell ⟨r, k, none⟩ (.int .u64 ((x ||| y : Nat) : Int))) from (HBE.out.drew).setCell (p := ⟨r, k, none⟩) hbr _)
        have HOT5 := Lib.hid (show Oth (wr.drew.setCell ⟨r, k, none⟩ (.int .u64 ((x ||| y : Nat) : Int))) g2 ws2 r from oth_store (w := wr.drew) ⟨_, c2, hB2, hr2, hg2, hne⟩ k _)
        clear hcl hx hu hy hr2 hB2 hgr
        go_wp2_with fail
        refine wp_region_order (fun w' => w' = wr.drew) [0, 1, 2, 3, 4, 5, 6, 7, 8, 9, 10, 11, 12, 13, 14] [15, 16] (by kernel_rfl) (by kernel_rfl) rfl ?_
        iterate 15
          apply TakesThen.cons rfl rfl
          · intro w' hw'
            subst hw'
            go_simp
            with_reducible rfl
          simp only [Act.put, List.getElem_toArray, List.getElem_cons_succ, List.getElem_cons_zero, List.setIfInBounds_toArray, List.set_cons_zero, List.set_cons_succ]
        refine TakesThen.nil ?_
        refine Chain.step rfl rfl (fun K hK => ?_)
        go_simp
        refine hK _ _ rfl ?_
        clear hK
        try simp only [Act.put, List.getElem_toArray, List.getElem_cons_succ, List.getElem_cons_zero, List.setIfInBounds_toArray, List.set_cons_zero, List.set_cons_succ]
        refine Chain.last (by kernel_rfl) rfl rfl (fun K hK => ?_)
        go_simp
        refine hK _ _ ?_
        clear hK
        refine NoPanic.normal ?_
        go_wp2_with fail
        go_roundw
        case rel =>
          refine ⟨k + 1, F.set k (x ||| y), by omega, by go_num, by rw [List.length_set]; exact hn, Lib.hid (fun j => ?_), Lib.hid (fun z hz => ?_), HB5, HO5, HBE5, Lib.hid (fun r' hr' => by cases hr'; exact HOT5.out)⟩
          · rw [getD_set _ _ _ _ (by omega)]
            have hFj := HF.out j
            by_cases e : k = j
            · subst e
              rw [if_pos rfl, if_pos (by omega)]
              rw [if_neg (by omega), HX.out] at hFj
              rw [hFj, HY.out]
            · rw [if_neg e, hFj]
              by_cases h' : j < k
              · rw [if_pos h', if_pos (by omega)]
              · rw [if_neg h', if_neg (by omega)]
          · rcases List.mem_or_eq_of_mem_set hz with h | h
            · exact HFL.out z h
            · rw [h]; exact Nat.or_lt_two_pow (n := 64) hxl.out hyl.out
        case measure => simp [intOf]; omega
      · have hkn : k = m2 := by omega
        subst hkn
        go_wp2_with fail
        go_end0
        refine ⟨F, rfl, fun j => ?_, ⟨HFL.out, by omega⟩, ⟨_, _, by rw [hn]; exact HB.out, hbg, by rw [hn]; exact HO.out⟩, HBE.out⟩
        rw [HF.out j]
        by_cases h' : j < k
        · rw [if_pos h']
        · rw [if_neg h', HZ2.out j (by omega), Nat.or_zero]
end Go.Proofs.YtckdcceglmlinaaDoor
