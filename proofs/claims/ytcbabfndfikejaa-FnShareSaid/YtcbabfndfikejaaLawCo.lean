/- The law FnCommon: its walk. No condition but that the table and the numbers read. -/
import Derived.Test.YtcbabfndfikejaaCom2
namespace Go.Proofs.Ytcbabfndfikejaa
open Go.RowKit
set_option linter.unusedSimpArgs false

def AllInPost (n : Nat) (vs : List Int) (w : World) (e : Ending) (w' : World) : Prop := ∃ r : Bool, e = .returned (.bool r) ∧ (r = true → (∀ v ∈ vs, 0 ≤ v ∧ v < (n : Int)) ∧ vs.length ≤ 10) ∧ w = w'
set_option maxHeartbeats 1000000 in
theorem specAllIn_any (A : Option Addr) (n c : Nat) (A' : Option Addr) (c' : Nat) (vs : List Int) (w : World) (hv : Reads w w.heap.size 1 A' vs.length (ints vs)) (hm : vs.length ≤ 2147483647) :
    Calls Try.prog 24 #[.slice A n c, .slice A' vs.length c'] w (AllInPost n vs w) := by
  have HV := Lib.hid hv
  clear hv
  go_enter Try.func24, Try.ntmps24
  go_wp2_with fail
  go_loop [9] (fun i => ∃ k : Nat, k ≤ vs.length ∧ i = .int .i64 k ∧ Hid (∀ j, j < k → ∀ v, vs[j]? = some v → 0 ≤ v ∧ v < (n : Int))) (fun i => vs.length - (intOf i).toNat)
  case atStart => exact ⟨0, Nat.zero_le _, rfl, Lib.hid (fun j hj => absurd hj (by omega))⟩
  case round =>
    obtain ⟨k, hk, rfl, HM⟩ := hrel
    by_cases hlt : k < vs.length
    · obtain ⟨b, off, u, rfl, _, hu, hc⟩ := HV.out.at1 hlt
      obtain ⟨x, hx, rfl⟩ := ints_at hu
      have HX := Lib.hid hx
      clear hu hx
      go_wp2_with fail
      refine (specIn_any A n c x w).mono ?_
      rintro e w4 ⟨rfl, rfl⟩
      by_cases hin : 0 ≤ x ∧ x < n
      · rw [in_yes hin]
        have HIN := Lib.hid hin
        clear hin
        go_wp2_with fail
        go_round
        case rel => exact ⟨k + 1, by omega, by go_num, Lib.hid (fun j hj v hv => by
          rcases Nat.lt_or_ge j k with h1 | h1
          · exact HM.out j h1 v hv
          · obtain rfl : j = k := by omega
            rw [HX.out] at hv; cases hv; exact HIN.out)⟩
        case measure => simp [intOf]; omega
      · rw [in_no hin]
        clear hin
        go_wp2_with fail
        go_ret
        exact ⟨_, rfl, fun h => by simp at h, rfl⟩
    · have HALL := Lib.hid (show ∀ v ∈ vs, 0 ≤ v ∧ v < (n : Int) from fun v hv => by
        obtain ⟨j, hj⟩ := List.getElem?_of_mem hv
        have := (List.getElem?_eq_some_iff.1 hj).1
        exact HM.out j (by omega) v hj)
      by_cases h10 : vs.length ≤ 10
      · have HT := Lib.hid h10
        go_wp2_with fail
        go_ret
        exact ⟨true, by simp; omega, fun _ => ⟨HALL.out, HT.out⟩, rfl⟩
      · go_wp2_with fail
        go_ret
        exact ⟨false, by simp; omega, (fun h => by cases h), rfl⟩

set_option maxHeartbeats 1000000 in
theorem implCommon_any (A : Option Addr) (c : Nat) (ns : List Nd) (A' : Option Addr) (c' : Nat) (vn : List Nat) (w : World) (ht : Tbl w w.heap.size A ns) (hg : GoodT ns) (hv : Reads w w.heap.size 1 A' vn.length (ints (natInts vn))) (hin : ∀ v ∈ vn, v < ns.length) (h0 : 0 < vn.length) (hm : vn.length ≤ 10) :
    Calls Try.prog 25 #[.slice A ns.length c, .slice A' vn.length c'] w (fun e w' => ∃ Ao co, ∃ l : List Kn, e = .returned (.slice Ao vn.length co) ∧ Below w.heap.size w w' ∧ l.length = vn.length ∧ (∀ (j v : Nat), vn[j]? = some v → ∃ q : Addr, l[j]? = some ((q, tr ns v) : Kn)) ∧ Reads w' w'.heap.size 1 Ao vn.length (ints (l.map fun x => (fidx l x : Int)))) := by
  obtain ⟨i0, hi0, hz0, hz1, hz2⟩ := info_parts int_info
  have HT := Lib.hid ht
  have HG := Lib.hid hg
  have HV := Lib.hid hv
  have HIN := Lib.hid hin
  clear ht hg hv hin
  go_enter Try.func25, Try.ntmps25
  go_wp2_with fail
  refine (implNodes_any A c ns w HT.out HG.out).mono ?_
  rintro e w1 ⟨v, rfl, hown, hb1⟩
  obtain ⟨A1, c1, rfl, ht1⟩ := hown.tbl
  have HT1 := Lib.hid ht1
  have HB1 := Lib.hid hb1
  have HV1 := Lib.hid (HV.out.ext hb1)
  clear hown ht1 hb1
  go_wp2_with (first
    | (at_builtin
       refine wpList_append_any _ rfl (.tmp 7) (.tmp 8) _ rfl w1.heap.size 3 i0 _ 1 8 Try.underlying22 hi0 hz0 hz1 hz2 rfl (by omega) (.slice (some ⟨w1.heap.size, 0, none⟩) 0 0) 0 [] rfl (World.ownsRow_made w1 #[] 0 (Nat.le_refl _) (by simp [maxLen]) rfl) _ A' vn.length c' (ints (natInts vn)) rfl (HV1.out.ext (below_alloc' (Below.refl _ _) _)) (ints_one _) (by simp only [maxLen]; omega) (by omega) (by simp) ?_
       intro v1 w2 hown1 hgr1 _))
  have hb2 : Below w1.heap.size w1 w2 := ((Below.refl _ _).alloc (Nat.le_refl _) _).grown hgr1 (by simp) (by simp [Value.ownBlock])
  rw [Nat.zero_add, List.nil_append] at hown1
  obtain ⟨A3, c3, rfl, hr3⟩ := own_slice hown1
  have HR3 := Lib.hid hr3
  have HB2 := Lib.hid (below_trans HB1.out hb2)
  have HT2 := Lib.hid (HT1.out.ext hb2)
  clear hown1 hgr1 hb2 hr3
  go_wp2_with fail
  refine (ZZCombine_any A1 c1 ns A3 c3 vn w2 HT2.out HG.out HR3.out HIN.out h0 hm).mono ?_
  rintro e w3 ⟨Ao, co, l, rfl, hb3, hll, hl, hro⟩
  have HB3 := Lib.hid (below_trans HB2.out hb3)
  have HLL := Lib.hid hll
  have HL := Lib.hid hl
  have HRO := Lib.hid hro
  clear hb3 hll hl hro
  go_wp2_with fail
  go_ret
  exact ⟨_, _, l, rfl, HB3.out, HLL.out, HL.out, HRO.out⟩

theorem nat_of_ints {vs : List Int} {n : Nat} (h : ∀ v ∈ vs, 0 ≤ v ∧ v < (n : Int)) : ∃ vn : List Nat, vs = natInts vn ∧ ∀ v ∈ vn, v < n := by
  induction vs with
  | nil => exact ⟨[], rfl, fun v hv => by cases hv⟩
  | cons a t ih =>
    obtain ⟨vn, h1, h2⟩ := ih (fun v hv => h v (List.mem_cons_of_mem _ hv))
    have ha := h a (List.mem_cons_self ..)
    refine ⟨a.toNat :: vn, ?_, fun v hv => ?_⟩
    · simp only [natInts, List.map_cons]
      rw [Int.toNat_of_nonneg ha.1, h1]; rfl
    · rcases List.mem_cons.1 hv with rfl | hv
      · omega
      · exact h2 v hv
theorem natInts_len (vn : List Nat) : (natInts vn).length = vn.length := by simp [natInts]
theorem natInts_at {vn : List Nat} {j : Nat} {u : Value} (h : (ints (natInts vn))[j]? = some u) : ∃ v, vn[j]? = some v ∧ u = .int .i64 (v : Int) := by
  obtain ⟨x, hx, rfl⟩ := ints_at h
  simp only [natInts, List.getElem?_map, Option.map_eq_some_iff] at hx
  obtain ⟨v, hv, rfl⟩ := hx
  exact ⟨v, hv, rfl⟩

set_option maxRecDepth 20000 in
set_option maxHeartbeats 4000000 in
theorem lawCommon_any (A : Option Addr) (c : Nat) (ns : List Nd) (A' : Option Addr) (c' : Nat) (vs : List Int) (w : World) (ht : Tbl w w.heap.size A ns) (hm : ns.length ≤ 9223372036854775807) (hv : Reads w w.heap.size 1 A' vs.length (ints vs)) (hmv : vs.length ≤ 9223372036854775807) :
    Calls Try.prog 7 #[.slice A ns.length c, .slice A' vs.length c'] w (Yes w) := by
  have HT := Lib.hid ht
  have HV := Lib.hid hv
  clear ht hv
  go_enter Try.func7, Try.ntmps7
  go_wp2_with fail
  refine (zzFits1_any A c ns w HT.out hm).mono ?_
  rintro e w1 ⟨r, rfl, hr, hb1⟩
  cases r
  · go_wp2_with fail
    go_ret
    exact ⟨rfl, hb1⟩
  have hm' := hr rfl
  clear hr
  have HB1 := Lib.hid hb1
  clear hb1
  by_cases hvl : vs.length ≤ 2147483647
  · go_wp2_with fail
    refine (lawsNodes_tbl A c ns w1 (HT.out.ext HB1.out) hm').mono ?_
    rintro e w2 ⟨A2, c2, rfl, ht2, hb2⟩
    have HT2 := Lib.hid ht2
    have HB2 := Lib.hid (below_trans HB1.out hb2)
    clear ht2 hb2
    go_wp2_with fail
    refine (specGood_any A2 c2 ns w2 HT2.out hm').mono ?_
    rintro e w3 ⟨r, rfl, hr, hb3⟩
    have HB3 := Lib.hid (below_trans HB2.out hb3)
    have HT3 := Lib.hid (HT2.out.ext hb3)
    clear hb3
    cases r
    · go_wp2_with fail
      go_ret
      exact ⟨rfl, HB3.out⟩
    have HG := Lib.hid (hr rfl)
    clear hr
    go_wp2_with fail
    refine (specAllIn_any A2 ns.length c2 A' c' vs w3 (HV.out.ext HB3.out) hvl).mono ?_
    rintro e w4 ⟨r, rfl, hr, rfl⟩
    cases r
    · go_wp2_with fail
      go_ret
      exact ⟨rfl, HB3.out⟩
    obtain ⟨hin, h10⟩ := hr rfl
    obtain ⟨vn, hvn, hin'⟩ := nat_of_ints hin
    clear hr hin hvl hmv
    subst hvn
    rw [natInts_len] at *
    have HIN := Lib.hid hin'
    clear hin'
    by_cases h0 : vn.length = 0
    · have hz : ((vn.length : Int) == 0) = true := by rw [beq_iff_eq]; omega
      have hz2 : (vn.length : Int) = 0 := by omega
      clear h0
      go_wp2_with fail
      go_ret
      exact ⟨rfl, HB3.out⟩
    · have hz : ((vn.length : Int) == 0) = false := by rw [beq_eq_false_iff_ne]; omega
      have hz2 : ¬ (vn.length : Int) = 0 := by omega
      have hne : ((vn.length : Int) != (vn.length : Int)) = false := by rw [bne_eq_false_iff_eq]
      have h00 : 0 < vn.length := by omega
      clear h0
      go_wp2_with fail
      refine (implCommon_any A c ns A' c' vn w3 (HT.out.ext HB3.out) HG.out (HV.out.ext HB3.out) HIN.out h00 h10).mono ?_
      rintro e w5 ⟨Ao, co, l, rfl, hb5, hll, hl, hro⟩
      have HB5 := Lib.hid (below_trans HB3.out hb5)
      have HT5 := Lib.hid (HT3.out.ext hb5)
      have HLL := Lib.hid hll
      have HL := Lib.hid hl
      have HRO := Lib.hid hro
      clear hb5 hll hl hro
      go_wp2_with fail
      go_loopw [44] (fun i wr => ∃ k : Nat, k ≤ vn.length ∧ i = .int .i64 k ∧ Hid (Below w5.heap.size w5 wr)) (fun i _ => vn.length - (intOf i).toNat)
      case atStart => exact ⟨0, Nat.zero_le _, rfl, Lib.hid (Below.refl _ _)⟩
      case round =>
        obtain ⟨k, hk, rfl, HBk⟩ := hrel
        by_cases hlt : k < vn.length
        · have HBW := Lib.hid (below_trans HB5.out HBk.out)
          obtain ⟨b, off, u, rfl, _, hu, hc⟩ := (HV.out.ext HBW.out).at1 hlt
          obtain ⟨v, hvk, rfl⟩ := natInts_at hu
          obtain ⟨q, hlk⟩ := HL.out k v hvk
          obtain ⟨hfi, y, hy, hyx, _, hno⟩ := fidx_spec hlk
          obtain ⟨b2, off2, u2, rfl, _, hu2, hc2⟩ := (HRO.out.ext HBk.out).at1 hlt
          obtain ⟨x2, hx2, rfl⟩ := ints_at hu2
          rw [List.getElem?_map, hlk] at hx2
          simp only [Option.map_some, Option.some.injEq] at hx2
          subst hx2
          generalize hfx : fidx l (q, tr ns v) = fx at *
          have hvlt := HIN.out v (List.mem_of_getElem? hvk)
          have HVK := Lib.hid hvk
          have HY := Lib.hid hy
          have HYX := Lib.hid hyx
          have HNO := Lib.hid hno
          have HC2 := Lib.hid hc2
          clear hu hvk hlk hy hyx hno hfx hu2 hc2
          go_wp2_with fail
          obtain ⟨wz, hwz⟩ : ∃ wz : World, wz = wr := ⟨_, rfl⟩
          rw [← hwz] at hc HC2 HBk HBW ⊢
          clear hwz
          go_loopw [9] (fun i wr => ∃ m : Nat, m ≤ fx ∧ i = .int .i64 m ∧ Hid (Below wz.heap.size wz wr)) (fun i _ => vn.length - (intOf i).toNat)
          case atStart => exact ⟨0, Nat.zero_le _, rfl, Lib.hid (Below.refl _ _)⟩
          case round =>
            obtain ⟨m, hmf, rfl, HBm⟩ := hrel
            have hmn : m < vn.length := by omega
            have HBX := Lib.hid (below_trans HBW.out HBm.out)
            obtain ⟨b3, off3, u3, he3, _, hu3, hc3⟩ := (HV.out.ext HBX.out).at1 hmn
            cases he3
            obtain ⟨vm, hvm, rfl⟩ := natInts_at hu3
            obtain ⟨qm, hlm⟩ := HL.out m vm hvm
            have hvmlt := HIN.out vm (List.mem_of_getElem? hvm)
            have HAL := Lib.hid (alike_any vm v ns ns A2 A2 c2 c2 wr HG.out.tab HG.out.tab (HT5.out.ext (below_trans HBk.out HBm.out)) (HT5.out.ext (below_trans HBk.out HBm.out)) hvmlt hvlt)
            have HLM := Lib.hid hlm
            have hc2' := cell_bel HC2.out HBm.out
            clear hu3 hvm hlm
            go_wp2_with fail
            refine HAL.out.mono ?_
            rintro e w6 ⟨rfl, hb6⟩
            have HB6 := Lib.hid (below_trans HBm.out hb6)
            have hc2'' := cell_bel hc2' hb6
            clear hb6 hc2'
            by_cases htr : tr ns vm = tr ns v
            · have hmeq : m = fx := by
                rcases Nat.lt_or_ge m fx with h1 | h1
                · exact ((HNO.out m h1 _ HLM.out) (by simp only; exact htr)).elim
                · omega
              rw [show alk ns vm ns v = true from decide_eq_true htr]
              subst hmeq
              clear htr
              go_wp2_with fail
              go_roundw
              case rel => exact ⟨k + 1, by omega, by go_num, Lib.hid (below_trans HBk.out HB6.out)⟩
              case measure => simp [intOf]; omega
            · have hmlt : m + 1 ≤ fx := by
                rcases Nat.lt_or_ge m fx with h1 | h1
                · exact h1
                · have e0 : m = fx := by omega
                  subst e0
                  have := HY.out
                  rw [HLM.out] at this; cases this
                  exact (htr HYX.out).elim
              rw [show alk ns vm ns v = false from decide_eq_false htr]
              clear htr hc2''
              go_wp2_with fail
              go_roundw
              case rel => exact ⟨m + 1, hmlt, by go_num, HB6⟩
              case measure => simp [intOf]; omega
        · go_wp2_with fail
          go_ret
          exact ⟨rfl, below_trans HB5.out HBk.out⟩
  · go_wp2_with fail
    go_ret
    exact ⟨rfl, HB1.out⟩
end Go.Proofs.Ytcbabfndfikejaa
