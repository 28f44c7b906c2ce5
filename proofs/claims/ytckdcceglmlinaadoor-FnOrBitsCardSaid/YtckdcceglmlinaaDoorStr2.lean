/- The walk of the package's String on a set of bits. Condition: words below 2^64, at most 100 of them; the tables lie as the program lays them. -/
import Derived.Test.YtckdcceglmlinaaDoorStr
import Derived.Lib.AppendIntMem
namespace Go.Proofs.YtckdcceglmlinaaDoor
open Go.RowKit
set_option linter.unusedSimpArgs false

theorem gPow : Tryd.prog.globalNamed "internal/strconv.uint64pow10" = some 1 := by kernel_rfl
/-- the tables lie -/
def Tabs (w : World) : Prop := TabAt 0 Lib.deBruijn64tab w ∧ Lib.TabIs Tryd.prog w "internal/strconv.uint64pow10" .u64 Lib.pow10Tab
theorem tabAt_ext {g : Nat} {tab : List Nat} {w w' : World} (h : TabAt g tab w) (hb : Below w.heap.size w w') : TabAt g tab w' := fun j hj => cell_bel (h j hj) hb
theorem Tabs.ext {w w' : World} (h : Tabs w) (hb : Below w.heap.size w w') : Tabs w' := by
  refine ⟨tabAt_ext h.1 hb, ?_⟩
  have h2 := h.2
  unfold Lib.TabIs World.var? at h2 ⊢
  rw [gPow] at h2 ⊢
  simp only [Option.bind_some] at h2 ⊢
  have hlt : 1 < w.heap.size := by
    rcases Nat.lt_or_ge 1 w.heap.size with h' | h'
    · exact h'
    · rw [Array.getElem?_eq_none h'] at h2; cases h2
  rw [hb.block 1 hlt]
  exact h2
theorem itoa_any (n : Nat) (hn : n ≤ 1000000) (w : World) (h : Tabs w) : Calls Tryd.prog 26 #[.int .i64 (n : Int)] w (StrPost (Lib.itoa (n : Int)) w) := by
  refine (Tryd.strconv_Itoa (n : Int) (by omega) (by omega) w h.2).mono ?_
  rintro e w' ⟨rfl, k, os, rfl⟩
  exact ⟨rfl, Lib.below_grow _ w (Nat.le_refl _) k os⟩
/-- numerals, as cells -/
def strv (l : List Nat) : List Value := l.map fun (n : Nat) => Value.string (bts (Lib.itoa (n : Int)))
theorem strv_length (l : List Nat) : (strv l).length = l.length := by simp [strv]
theorem strv_snoc (l : List Nat) (n : Nat) : strv (l ++ [n]) = strv l ++ [.string (bts (Lib.itoa (n : Int)))] := by simp [strv]
theorem info9 : (Tryd.prog.info? 9).map (fun i => (i.zero, i.size, i.bytes)) = some (some (.string ⟨#[]⟩), 1, 16) := by kernel_rfl
theorem dropLow_and {x : Nat} (h0 : x ≠ 0) (h : x < 18446744073709551616) : bits BinOp.and .u64 (x : Int) ((18446744073709551615 - 2 ^ Lib.ctz 64 x : Nat) : Int) = ((dropLow x : Nat) : Int) := by
  have h1 := (ctz_spec h0 h).1
  have hp : 2 ^ Lib.ctz 64 x < 2 ^ 64 := Nat.pow_lt_pow_right (by omega) h1
  rw [bits_and_u64_nat _ _ h (Nat.lt_of_le_of_lt (Nat.sub_le _ _) (by decide))]
  unfold dropLow
  rw [show 2 ^ 64 - (2 ^ Lib.ctz 64 x + 1) = 18446744073709551615 - 2 ^ Lib.ctz 64 x by omega]
set_option maxHeartbeats 2000000 in
theorem string_any (g : Nat) (ws : List Nat) (w : World) (h : BitR w g ws) (hs : Sm ws) (hT : Tabs w) :
    Calls Tryd.prog 15 #[.pointer (some ⟨g, 0, none⟩)] w (StrPost (textOf (bitsW ws)) w) := by
  have HR := Lib.hid h
  obtain ⟨A, c, h1, h2⟩ := h
  have H2 := Lib.hid h2
  have e0 := h1.cell 0
  simp at e0
  have hl := hs.2
  have HS := Lib.hid hs
  have HT := Lib.hid hT
  have HLEN := Lib.hid (length_any g ws w HR.out hs)
  clear h1 h2 hs hT
  have hbl := bitsK_len ws ws.length
  obtain ⟨i0, hi0, hz0, hz1, hz2⟩ := info_parts info9
  generalize hN : (bitsW ws).length = N at *
  have hN2 : N ≤ 6400 := by rw [← hN]; unfold bitsW; omega
  obtain ⟨w1, hr, hown, hgr⟩ := run_makeSlice_owned (P := Tryd.prog) w w.heap.size 50 9 i0 (.string ⟨#[]⟩) 1 Tryd.underlying50 hi0 hz0 hz1 .i64 .i64 N (by omega) (by rw [hz2]; omega) (by simp [maxLen]; omega) (Nat.le_refl _)
  have hb : Below w.heap.size w w1 := ⟨hgr.os, hgr.tape, hgr.output, hgr.size, fun k hk => hgr.block k hk (by simp)⟩
  have hr' : (Instr.makeSlice 50 (.int .i64 0) (.int .i64 (N : Int))).run Tryd.prog w = .ok (.slice (some ⟨w.heap.size, 0, none⟩) 0 N) w1 := hr
  have e1 := cell_bel e0 hb
  clear hr hgr
  have HO1 := Lib.hid hown
  have HB1 := Lib.hid hb
  have HN := Lib.hid hN
  clear hown hb hN hbl
  go_enter Tryd.func15, Tryd.ntmps15
  go_wp2_with fail
  refine HLEN.out.mono ?_
  rintro e wx ⟨rfl, rfl⟩
  go_wp2_with fail
  go_loopw [3, 15] (fun o i wr => ∃ k : Nat, k ≤ ws.length ∧ i = .int .i64 k ∧ Hid (wr.ownsRow wx.heap.size 9 1 o (bitsK ws k).length (strv (bitsK ws k))) ∧ Hid (Below wx.heap.size wx wr)) (fun _ i _ => ws.length - (intOf i).toNat)
  case atStart => exact ⟨0, Nat.zero_le _, rfl, by rw [bitsK_zero]; exact HO1, HB1⟩
  case round =>
    obtain ⟨k, hk, rfl, HO, HB⟩ := hrel
    clear HO1 HB1 e1
    by_cases hlt : k < ws.length
    · obtain ⟨b, off, u, rfl, _, hu, hc⟩ := (H2.out.ext HB.out).at1 hlt
      obtain ⟨x0, hx0, rfl⟩ := wds_at hu
      have HL := Lib.hid (HS.out.at hx0)
      have HSUC := Lib.hid (show bitsK ws (k + 1) = bitsK ws k ++ (onesOf x0).map (k * 64 + ·) by rw [bitsK_succ, getD_at hx0])
      clear hu hx0
      go_wp2_with fail
      go_loopw [3, 5] (fun o v wr2 => ∃ (x : Nat) (cur : List Nat), v = .int .u64 (x : Int) ∧ Hid (x < 18446744073709551616) ∧ Hid (cur ++ (onesOf x).map (k * 64 + ·) = bitsK ws (k + 1)) ∧ Hid (wr2.ownsRow wx.heap.size 9 1 o cur.length (strv cur)) ∧ Hid (Below wx.heap.size wx wr2)) (fun _ v _ => (onesOf (intOf v).toNat).length)
      case atStart => exact ⟨x0, bitsK ws k, rfl, HL, Lib.hid HSUC.out.symm, HO, HB⟩
      case round =>
        obtain ⟨x, cur, rfl, HX, HE, HO2, HB2⟩ := hrel
        clear HO HB HSUC
        by_cases h0 : x = 0
        · subst h0
          have HC := Lib.hid (show cur = bitsK ws (k + 1) by rw [← HE.out, onesOf_zero]; simp)
          go_wp2_with fail
          go_roundw
          case rel => exact ⟨k + 1, by omega, by go_num, by rw [← HC.out]; exact HO2, HB2⟩
          case measure => simp [intOf]; omega
        · have hx0 : ((x : Int) == 0) = false := by rw [beq_eq_false_iff_ne]; omega
          have hx1 : ((x : Int) != 0) = true := by rw [bne_iff_ne]; omega
          have HZ := Lib.hid (ctz_spec h0 HX.out).1
          have hz := HZ.out
          have HCONS := Lib.hid (onesOf_cons h0 HX.out)
          have HD := Lib.hid (dropLow_and h0 HX.out)
          have HDL := Lib.hid (dropLow_lt HX.out)
          have HLEN2 := Lib.hid (show cur.length ≤ 6400 by
            have h1 := congrArg List.length HE.out
            have h2 := bitsK_len ws (k + 1)
            simp at h1
            omega)
          go_wp2_with fail
          refine (tz_any x h0 HX.out _ (HT.out.ext HB2.out).1).mono ?_
          rintro e w3 ⟨rfl, rfl⟩
          generalize hZ : Lib.ctz 64 x = z at *
          have HZZ := Lib.hid hZ
          clear hZ
          have hm : IntKind.i64.wrap (IntKind.i64.wrap ((k : Int) * 64) + (z : Int)) = ((k * 64 + z : Nat) : Int) := by
            rw [IntKind.wrap_i64, IntKind.wrap_i64]; omega
          go_wp2_with fail
          rw [show ((k : Int) * 64 + (z : Int)) = ((k * 64 + z : Nat) : Int) by omega]
          refine (itoa_any (k * 64 + z) (by omega) _ (HT.out.ext HB2.out)).mono ?_
          rintro e w4 ⟨rfl, hb4⟩
          have HO4 := Lib.hid (ownsRow_ext HO2.out hb4)
          have HB4 := Lib.hid (HB2.out.trans (hb4.mono HB2.out.size))
          have hs4 : wx.heap.size ≤ w4.heap.size := Nat.le_trans HB2.out.size hb4.size
          have hsz := HB4.out.size
          clear hb4
          go_wp2_with (first
            | (at_builtin
               go_must (refine wpList_append_bel rfl (.tmp 24) (.tmp 30) _ rfl wx wx.heap.size 9 i0 _ 1 16 Tryd.underlying50 hi0 hz0 hz1 hz2 rfl (by omega) _ cur.length (strv cur) rfl (HO4.out.alloc _) _ _ 1 1 _ rfl (reads_new (by simp) rfl) (by simp [Value.oneCell']) (by have := HLEN2.out; omega) (by omega) (HB4.out.alloc hs4 _) (by simp; omega) ?_)
               intro v1 w5 hown5 hb5 _ _))
          have HA : Hid (bits BinOp.and IntKind.u64 (x : Int) (bits BinOp.xor IntKind.u64 (if IntKind.u64.signed = true then -1 else IntKind.u64.max) (IntKind.u64.wrap (2 ^ z))) = ((dropLow x : Nat) : Int)) := Lib.hid (by
            have hp : 2 ^ z < 2 ^ 64 := Nat.pow_lt_pow_right (by omega) (by omega)
            have hwp := wrap_pow z
            rw [Nat.mod_eq_of_lt (by omega : z < 64)] at hwp
            rw [hwp, not_word _ hp]
            exact HD.out)
          rw [HA.out]
          refine ⟨⟨dropLow x, cur ++ [k * 64 + z], rfl, HDL, Lib.hid ?_, Lib.hid ?_, Lib.hid hb5⟩, ?_⟩
          · rw [← HE.out, HCONS.out]; simp
          · rw [strv_snoc]; simpa using hown5
          · simp only [intOf, Int.toNat_natCast]
            rw [HCONS.out]; simp
    · have hkn : k = ws.length := by omega
      subst hkn
      have hsep : (⟨#[44, 32]⟩ : ByteArray) = bts [44, 32] := rfl
      have hend : (⟨#[125]⟩ : ByteArray) = bts [125] := rfl
      have hbeg : (⟨#[123]⟩ : ByteArray) = bts [123] := rfl
      have hlen : (Lib.join ((bitsW ws).map fun (n : Nat) => Lib.itoa (n : Int)) [44, 32]).length ≤ 23 * 6400 := by
        have h1 := join_len [44, 32] ((bitsW ws).map fun (n : Nat) => Lib.itoa (n : Int)) 21 (fun x hx => by
          obtain ⟨n, hn, rfl⟩ := List.mem_map.1 hx
          exact itoa_len n (by have := (mem_bitsK.1 hn).1; omega))
        rw [List.length_map, HN.out] at h1
        exact Nat.le_trans h1 (Nat.mul_le_mul (by decide) hN2)
      have HJ : Hid (Calls Tryd.prog 27 #[u3, .string (bts [44, 32])] wr (StrPost (Lib.join ((bitsW ws).map fun (n : Nat) => Lib.itoa (n : Int)) [44, 32]) wr)) := Lib.hid (by
        have HO2 := HO.out
        change wr.ownsRow wx.heap.size 9 1 u3 (bitsW ws).length (strv (bitsW ws)) at HO2
        rcases Nat.eq_zero_or_pos (bitsW ws).length with h0 | h0
        · obtain ⟨A', c', rfl, _⟩ := own_slice HO2
          rw [h0]
          have hnil : bitsW ws = [] := List.eq_nil_of_length_eq_zero h0
          refine (Tryd.strings_Join_none A' c' (bts [44, 32]) wr).mono ?_
          rintro e w' ⟨rfl, rfl⟩
          rw [hnil]
          exact ⟨rfl, Below.refl _ _⟩
        · obtain ⟨hl1, ⟨_, h00⟩ | ⟨r, cap, cur, rfl, hbr, hg, hnc, hcm, hcs, htk⟩⟩ := HO2
          · omega
          have hxl : ((bitsW ws).map fun (n : Nat) => bts (Lib.itoa (n : Int))).length = (bitsW ws).length := by simp
          have hj := Tryd.strings_Join r 0 cap ((bitsW ws).map fun (n : Nat) => bts (Lib.itoa (n : Int))) (bts [44, 32]) wr (fun j x hx => by
            rw [Nat.zero_add, cell_of_row wr r j cur 9 (0, 0) hg]
            have h2 : (strv (bitsW ws))[j]? = some (.string x) := by
              simp only [strv, List.getElem?_map, Option.map_eq_some_iff] at hx ⊢
              obtain ⟨n, hn, rfl⟩ := hx
              exact ⟨n, hn, rfl⟩
            rw [← htk, List.getElem?_take] at h2
            split at h2
            · simpa using h2
            · cases h2) (by
              rcases Nat.lt_or_ge r wr.heap.size with h1 | h1
              · exact h1
              · rw [Array.getElem?_eq_none h1] at hg; cases hg) (by rw [hxl, HN.out]; omega) (by rw [hxl]; exact hnc) (by
              simp only [List.map_map, Function.comp_def, bts]
              exact Nat.le_trans hlen (by decide))
          rw [hxl] at hj
          refine hj.mono ?_
          rintro e w' ⟨rfl, hb⟩
          refine ⟨?_, hb⟩
          simp only [List.map_map, Function.comp_def, bts])
      go_wp2_with (simp only [hsep])
      refine HJ.out.mono ?_
      rintro e w5 ⟨rfl, hb5⟩
      have HB5 := Lib.hid (HB.out.trans (hb5.mono HB.out.size))
      clear hb5
      generalize hJ2 : Lib.join ((bitsW ws).map fun (n : Nat) => Lib.itoa (n : Int)) [44, 32] = J at *
      have HTX := Lib.hid (show textOf (bitsW ws) = (123 :: J) ++ [125] by unfold textOf; rw [hJ2])
      have hc1 := fun wq => cat_run [123] J wq (by simp; omega)
      have hc2 := fun wq => cat_run (123 :: J) [125] wq (by simp; omega)
      go_wp2_with (simp only [hbeg, hend])
      go_ret
      exact ⟨by rw [HTX.out]; rfl, HB5.out⟩
end Go.Proofs.YtckdcceglmlinaaDoor
