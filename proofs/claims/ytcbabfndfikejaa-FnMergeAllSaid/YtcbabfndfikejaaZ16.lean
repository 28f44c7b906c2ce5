/- The walk of merge (without a cache), for choices of any depth. Condition: the choices lie in memory and are well made. -/
import Derived.Test.YtcbabfndfikejaaZ13
import Derived.Test.YtcbabfndfikejaaZ15
import Derived.Test.YtcbabfndfikejaaZ11
namespace Go.Proofs.Ytcbabfndfikejaa
open Go.RowKit
set_option linter.unusedSimpArgs false
theorem MOut.fromU {S : List Addr} {t : Tr} {RD : Tr → Prop} {L L' : Nat} {I : (Nat → Prop) → Nat → (Nat → Prop) → World → Prop} {Z Φ : Nat → Prop} {w w4 : World} {e : Ending} {w' : World} (hI : CacheI I) (h : MOut S t RD I Z L Φ w4 e w') (hb : Below w.heap.size w w4) (hL : L ≤ L') : MOut S t RD I Z L' Φ w e w' := by
  obtain ⟨r, E, Φ', h0, h1, h2, h3, h4, h5, h6, h7, h8⟩ := h
  have := hb.size
  exact ⟨r, E, Φ', h0, h1, h2, h3, h4, hI.mono h5 hL, fun j hj => (h6 j hj).imp id (fun h => by omega), (Chg.of_below (X := Φ) hb).trans h7 (fun _ _ h => h), (Stay.of_below hb).trans h8⟩
set_option maxRecDepth 20000 in
set_option maxHeartbeats 4000000 in
theorem ftU_step (wild : Bool) (Ok : Tr → Tr → Prop) (hOK : OkM wild Ok) (S : List Addr) (n : Nat) (IH : MrgTo wild Ok (.pointer none) IU S n) : MrgTo wild Ok (.pointer none) IU S (n + 1) := by
  intro x y p q w L Φ Z hZ hsz hi hp hq mx my hok hpS hqS hcl hL
  obtain ⟨k, f⟩ := x
  obtain ⟨k', g⟩ := y
  simp only at hsz hp hq hL
  have HCI := Lib.hid (cacheU)
  have HZ := Lib.hid hZ
  have HI := Lib.hid hi
  have HP := Lib.hid hp
  have HQ := Lib.hid hq
  have HMX := Lib.hid mx
  have HMY := Lib.hid my
  have HPS := Lib.hid hpS
  have HQS := Lib.hid hqS
  have HCL := Lib.hid hcl
  have HIH := Lib.hid IH
  have HSZ := Lib.hid hsz
  have HLL := Lib.hid hL
  have HWX := Lib.hid mx.wf
  have HWY := Lib.hid my.wf
  have HOK := Lib.hid hok
  have same : (k, f) = (k', g) → ∀ {w' : World}, Below w.heap.size w w' → MOut S (mg wild (k, f) (k', g)) (RDs wild Ok) IU Z (L + f.size + 1) Φ w (.returned (.pointer (some p))) w' := fun e w' hb =>
    ((MO.old (t := mg wild (k, f) (k', g)) (RD := RDs wild Ok) (r := p) (Φ := Φ) HPS.out (HCL.out.stay (Stay.of_below hb)) (by rw [mg_eq wild HWX.out HWY.out, if_pos e]; exact HP.out.stay (Stay.of_below hb)) (HCI.out.below HI.out hb) (fun j hj => .inl hj) (Chg.of_below hb) (Stay.of_below hb)).mono HCI.out (show L ≤ L + f.size + 1 by omega)).out
  have HSAME := Lib.hid @same
  obtain ⟨gp, d2, d3, d4, d5, e1, _, hg⟩ := hp.head
  obtain ⟨gq, b2, b3, b4, b5, e2, _, hg'⟩ := hq.head
  subst e1
  subst e2
  by_cases hpq : gp = gq
  · subst hpq
    have hu := hp.noX.unique hq.noX
    have HFIN := Lib.hid (HSAME.out (by rw [hu.1, hu.2]) (Below.refl _ w))
    have q1 := eqlP_same w ⟨gp, 0, none⟩
    clear hZ hsz hi hp hq mx my hok hpS hqS hcl IH hL hg hg' hu same
    go_enter Try.func61, Try.ntmps61
    go_wp2_with fail
    go_ret
    exact HFIN.out
  have q1 := eqlP_other w (a := ⟨gp, 0, none⟩) (b := ⟨gq, 0, none⟩) (by intro e; cases e; exact hpq rfl) hg hg'
  have HG := Lib.hid hg
  have HG' := Lib.hid hg'
  have HEQ := Lib.hid (equals_any f k g k' ⟨gp, 0, none⟩ ⟨gq, 0, none⟩ w hp.noX hq.noX mx.wf my.wf)
  clear hZ hsz hi hp hq mx my hok hpS hqS hcl IH hL hg hg' same hpq
  go_enter Try.func61, Try.ntmps61
  go_wp2_with fail
  refine HEQ.out.mono ?_
  rintro e w1 ⟨rfl, hd1⟩
  have HD1 := Lib.hid hd1
  clear hd1 HEQ
  by_cases hxy : k = k' ∧ f = g
  · rw [eqB_true hxy]
    have HFIN := Lib.hid (HSAME.out (by rw [hxy.1, hxy.2]) HD1.out.below)
    clear hxy HSAME
    go_wp2_with fail
    go_ret
    exact HFIN.out
  rw [eqB_false hxy]
  have HXY := Lib.hid (show ¬ ((k, f) = (k', g)) from fun e => hxy (by cases e; exact ⟨rfl, rfl⟩))
  clear hxy HSAME
  have c1 : w1.cell? ⟨gp, 1, none⟩ = some (.int .i64 k) := by rw [cell_of (show w1.heap[gp]? = _ by rw [HD1.out.heap]; exact HG.out)]; rfl
  have c2 : w1.cell? ⟨gq, 1, none⟩ = some (.int .i64 k') := by rw [cell_of (show w1.heap[gq]? = _ by rw [HD1.out.heap]; exact HG'.out)]; rfl
  by_cases hk : k = 1 ∧ k' = 1
  · obtain ⟨rfl, rfl⟩ := hk
    have one : ∀ {f : Tops}, Wf 1 f → ∃ s k a, f = .cons s k a .nil := fun {f} hw => by
      rcases hw.1 with ⟨h, _⟩ | ⟨_, h⟩ | ⟨h, _⟩
      · cases h
      · cases f with
        | nil => simp [Tops.len] at h
        | cons s k a r => cases r with
          | nil => exact ⟨s, k, a, rfl⟩
          | cons => simp [Tops.len] at h
      · cases h
    obtain ⟨s, ka, a, hf⟩ := one HWX.out
    obtain ⟨t, kb, b, hgg⟩ := one HWY.out
    subst hf
    subst hgg
    have HMM := Lib.hid (show mg wild (1, .cons s ka a .nil) (1, .cons t kb b .nil) = mgA wild (.cons s ka a .nil) (.cons t kb b .nil) from by
      rw [mg_eq wild HWX.out HWY.out, if_neg HXY.out, if_neg (by simp), if_neg (by simp)])
    have hsz1 : (Tops.cons s ka a .nil).size = a.size + 1 := by simp [Tops.size]
    have HS1 := Lib.hid hsz1
    have HMS := Lib.hid (fsU_any wild Ok hOK S n HIH.out ⟨gp, 0, none⟩ ⟨gq, 0, none⟩ s t ka kb a b w1 L Φ Z (HZ.out.ext HD1.out.below.size) (by have := HSZ.out; omega) (HCI.out.below HI.out HD1.out.below) (HP.out.stay HD1.out.stay) (HQ.out.stay HD1.out.stay) HMX.out HMY.out HOK.out HPS.out HQS.out (HCL.out.stay HD1.out.stay) (by have := HLL.out; omega) (fun e => HXY.out (by rw [e])))
    clear hsz1 one
    go_wp2_with fail
    refine HMS.out.mono ?_
    rintro e w2 hm
    have hm2 := MOut.fromU HCI.out hm HD1.out.below (show L + a.size + 2 ≤ L + (Tops.cons s ka a .nil).size + 1 by have := HS1.out; omega)
    rw [← HMM.out] at hm2
    obtain ⟨r, E, Φ', rfl, hr⟩ := hm2
    have HFIN := Lib.hid (show MOut S (mg wild (1, .cons s ka a .nil) (1, .cons t kb b .nil)) (RDs wild Ok) IU Z (L + (Tops.cons s ka a .nil).size + 1) Φ w (.returned (.pointer (some r))) w2 from ⟨r, E, Φ', rfl, hr⟩)
    clear hr hm HMS HMM
    go_wp2_with fail
    go_ret
    exact HFIN.out
  have HE1 := Lib.hid (isEmpty_any NoX ⟨gp, 0, none⟩ k f w1 (HP.out.noX.stay HD1.out.stay) HWX.out)
  have HE2 := Lib.hid (isEmpty_any NoX ⟨gq, 0, none⟩ k' g w1 (HQ.out.noX.stay HD1.out.stay) HWY.out)
  have HC1 := Lib.hid (conv_any Z S k f ⟨gp, 0, none⟩ w1 (HZ.out.ext HD1.out.below.size) (HP.out.stay HD1.out.stay) HWX.out HPS.out (HCL.out.stay HD1.out.stay))
  have HN0 := Lib.hid (show 0 < f.len + g.len from by
    rcases Nat.eq_zero_or_pos (f.len + g.len) with h | h
    · exact absurd (HWX.out.nil_eq HWY.out ((Tops.isNil_len f).2 (by omega)) ((Tops.isNil_len g).2 (by omega))) HXY.out
    · exact h)
  have HMF := Lib.hid (show ∀ s k a, (s, k, a) ∈ f.list → (0 ≤ s ∧ s ≤ 1000) ∧ Made 64 (k, a) from fun s k a h => ⟨(Tops.list_wf HWX.out.2 h).1, HMX.out.at_ h⟩)
  have HMG := Lib.hid (show ∀ s k a, (s, k, a) ∈ g.list → (0 ≤ s ∧ s ≤ 1000) ∧ Made 64 (k, a) from fun s k a h => ⟨(Tops.list_wf HWY.out.2 h).1, HMY.out.at_ h⟩)
  -- the arrays
  have HARR := Lib.hid (show ∀ (ra rb : Addr) (w3 : World), (wild = true → ¬ (k = 0 ∨ k' = 0)) → Below w1.heap.size w1 w3 → KOX w3 Z ra 2 f → KidIn w3 Z ra S → (k = 2 → ra ∈ S) → KOX w3 Z rb 2 g → KidIn w3 Z rb S → (k' = 2 → rb ∈ S) → Calls Try.prog 88 #[.pointer (some ra), .pointer (some rb), .bool wild, (.pointer none)] w3 (MOut S (mg wild (k, f) (k', g)) (RDs wild Ok) IU Z (L + f.size + 1) Φ w) from fun ra rb w3 hkk hb ka1 ka2 ka3 kb1 kb2 kb3 => by
    have hb3 := below_trans HD1.out.below hb
    have e1 : mg wild (k, f) (k', g) = mgA wild f g := by
      rw [mg_eq wild HWX.out HWY.out, if_neg HXY.out, if_neg (fun h => hkk h.1 (.inl h.2)), if_neg (fun h => hkk h.1 (.inr h.2))]
    rw [e1]
    have nk := arr_kind wild HWX.out HWY.out (fun h => by
      cases wild with
      | true => exact hkk rfl h
      | false => rcases h with h | h
                 · have := (hOK.mix HOK.out rfl).1 h; exact HXY.out (HWX.out.nil_eq HWY.out (HWX.out.nil_zero.2 h) (HWY.out.nil_zero.2 this))
                 · have := (hOK.mix HOK.out rfl).2 h; exact HXY.out (HWX.out.nil_eq HWY.out (HWX.out.nil_zero.2 this) (HWY.out.nil_zero.2 h))) (hOK.two HOK.out) hk
    have hsp : mgA wild f g = (2, f) → ra ∈ S := fun e => ka3 (nk.1 e)
    have hsq : mgA wild f g = (2, g) → rb ∈ S := fun e => kb3 (nk.2.1 e)
    have hred : mgA wild f g ≠ (2, f) → mgA wild f g ≠ (2, g) → RDs wild Ok (mgA wild f g) := fun h1 h2 => ⟨_, _, HOK.out, e1.symm, nk.2.2.1 h1, nk.2.2.2 h2⟩
    exact (faU_any wild Ok S n HIH.out ra rb f g w3 L Φ Z (HZ.out.ext hb3.size) (by have := HSZ.out; omega) (HCI.out.below HI.out hb3) ka1 kb1 ka2 kb2 (HCL.out.stay (Stay.of_below hb3)) HMF.out HMG.out HWX.out.2 HWY.out.2 HMX.out.len HMY.out.len HN0.out HLL.out (fun s k1 a k1' b h1 h2 => hOK.kid HOK.out h1 h2) hsp hsq hred).mono (fun e w' h => MOut.fromU HCI.out h hb3 (Nat.le_refl _)))
  clear HMF HMG HN0 HIH HG HG'
  by_cases hk1 : k = 1
  · as_aux_lemma =>
    subst hk1
    have hk2 : ¬ k' = 1 := fun h => hk ⟨rfl, h⟩
    have hk3 : ((k' : Int) == 1) = false := by rw [beq_eq_false_iff_ne]; omega
    have hk4 : ¬ (k' : Int) = 1 := by omega
    clear hk hk2
    cases wild with
    | true =>
      by_cases hk0 : 1 = 0
      · as_aux_lemma =>
        have HFIN := Lib.hid (((MO.old (t := mg true (1, f) (k', g)) (RD := RDs true Ok) (r := ⟨gp, 0, none⟩) (Φ := Φ) HPS.out (HCL.out.stay HD1.out.stay) (by rw [mg_eq true HWX.out HWY.out, if_neg HXY.out, if_pos ⟨rfl, hk0⟩]; exact HP.out.stay HD1.out.stay) (HCI.out.below HI.out HD1.out.below) (fun j hj => .inl hj) (Chg.of_below HD1.out.below) HD1.out.stay).mono HCI.out (show L ≤ L + f.size + 1 by omega)).out)
        have HK := Lib.hid (decide_eq_true hk0)
        clear hk0
        go_wp2_with fail
        refine HE1.out.mono ?_
        rintro e w' ⟨rfl, rfl⟩
        rw [HK.out]
        go_wp2_with fail
        go_ret
        exact HFIN.out
      by_cases hk0' : k' = 0
      · as_aux_lemma =>
        have HFIN := Lib.hid (((MO.old (t := mg true (1, f) (k', g)) (RD := RDs true Ok) (r := ⟨gq, 0, none⟩) (Φ := Φ) HQS.out (HCL.out.stay HD1.out.stay) (by rw [mg_eq true HWX.out HWY.out, if_neg HXY.out, if_neg (fun h => hk0 h.2), if_pos ⟨rfl, hk0'⟩]; exact HQ.out.stay HD1.out.stay) (HCI.out.below HI.out HD1.out.below) (fun j hj => .inl hj) (Chg.of_below HD1.out.below) HD1.out.stay).mono HCI.out (show L ≤ L + f.size + 1 by omega)).out)
        have HK := Lib.hid (decide_eq_false hk0)
        have HK' := Lib.hid (decide_eq_true hk0')
        clear hk0 hk0'
        go_wp2_with fail
        refine HE1.out.mono ?_
        rintro e w' ⟨rfl, rfl⟩
        rw [HK.out]
        go_wp2_with fail
        refine HE2.out.mono ?_
        rintro e w' ⟨rfl, rfl⟩
        rw [HK'.out]
        go_wp2_with fail
        go_ret
        exact HFIN.out
      have HK := Lib.hid (decide_eq_false hk0)
      have HK' := Lib.hid (decide_eq_false hk0')
      have HK0 := Lib.hid (show ¬ (1 = 0 ∨ k' = 0) from fun h => h.elim hk0 hk0')
      clear hk0 hk0'
      go_wp2_with fail
      refine HE1.out.mono ?_
      rintro e w' ⟨rfl, rfl⟩
      rw [HK.out]
      go_wp2_with fail
      refine HE2.out.mono ?_
      rintro e w' ⟨rfl, rfl⟩
      rw [HK'.out]
      go_wp2_with fail
      refine HC1.out.mono ?_
      rintro e w3 ⟨ra, rfl, ka1, ka2, ka3, hb3⟩
      have HKA1 := Lib.hid ka1
      have HKA2 := Lib.hid ka2
      have HKA3 := Lib.hid ka3
      have HB3 := Lib.hid hb3
      have HC2 := Lib.hid (conv_any Z S k' g ⟨gq, 0, none⟩ w3 (HZ.out.ext (below_trans HD1.out.below hb3).size) (HQ.out.stay (Stay.of_below (below_trans HD1.out.below hb3))) HWY.out HQS.out (HCL.out.stay (Stay.of_below (below_trans HD1.out.below hb3))))
      clear ka1 ka2 ka3 hb3 HC1
      go_wp2_with fail
      refine HC2.out.mono ?_
      rintro e w4 ⟨rb, rfl, kb1, kb2, kb3, hb4⟩
      have HFA := Lib.hid (HARR.out ra rb w4 (fun _ => HK0.out) (below_trans HB3.out hb4) (HKA1.out.stay (Stay.of_below hb4)) (HKA2.out.stay (Stay.of_below hb4)) HKA3.out kb1 kb2 kb3)
      clear kb1 kb2 kb3 hb4 HC2
      go_wp2_with fail
      refine HFA.out.mono ?_
      rintro e w5 ⟨r, E, Φ', rfl, hr⟩
      have HFIN := Lib.hid (show MOut S (mg true (1, f) (k', g)) (RDs true Ok) IU Z (L + f.size + 1) Φ w (.returned (.pointer (some r))) w5 from ⟨r, E, Φ', rfl, hr⟩)
      clear hr HFA
      go_wp2_with fail
      go_ret
      exact HFIN.out
    | false =>
      go_wp2_with fail
      refine HC1.out.mono ?_
      rintro e w3 ⟨ra, rfl, ka1, ka2, ka3, hb3⟩
      have HKA1 := Lib.hid ka1
      have HKA2 := Lib.hid ka2
      have HKA3 := Lib.hid ka3
      have HB3 := Lib.hid hb3
      have HC2 := Lib.hid (conv_any Z S k' g ⟨gq, 0, none⟩ w3 (HZ.out.ext (below_trans HD1.out.below hb3).size) (HQ.out.stay (Stay.of_below (below_trans HD1.out.below hb3))) HWY.out HQS.out (HCL.out.stay (Stay.of_below (below_trans HD1.out.below hb3))))
      clear ka1 ka2 ka3 hb3 HC1
      go_wp2_with fail
      refine HC2.out.mono ?_
      rintro e w4 ⟨rb, rfl, kb1, kb2, kb3, hb4⟩
      have HFA := Lib.hid (HARR.out ra rb w4 (fun h => absurd h (by decide)) (below_trans HB3.out hb4) (HKA1.out.stay (Stay.of_below hb4)) (HKA2.out.stay (Stay.of_below hb4)) HKA3.out kb1 kb2 kb3)
      clear kb1 kb2 kb3 hb4 HC2
      go_wp2_with fail
      refine HFA.out.mono ?_
      rintro e w5 ⟨r, E, Φ', rfl, hr⟩
      have HFIN := Lib.hid (show MOut S (mg false (1, f) (k', g)) (RDs false Ok) IU Z (L + f.size + 1) Φ w (.returned (.pointer (some r))) w5 from ⟨r, E, Φ', rfl, hr⟩)
      clear hr HFA
      go_wp2_with fail
      go_ret
      exact HFIN.out
  · as_aux_lemma =>
    have hk3 : ((k : Int) == 1) = false := by rw [beq_eq_false_iff_ne]; omega
    have hk4 : ¬ (k : Int) = 1 := by omega
    clear hk hk1
    cases wild with
    | true =>
      by_cases hk0 : k = 0
      · as_aux_lemma =>
        have HFIN := Lib.hid (((MO.old (t := mg true (k, f) (k', g)) (RD := RDs true Ok) (r := ⟨gp, 0, none⟩) (Φ := Φ) HPS.out (HCL.out.stay HD1.out.stay) (by rw [mg_eq true HWX.out HWY.out, if_neg HXY.out, if_pos ⟨rfl, hk0⟩]; exact HP.out.stay HD1.out.stay) (HCI.out.below HI.out HD1.out.below) (fun j hj => .inl hj) (Chg.of_below HD1.out.below) HD1.out.stay).mono HCI.out (show L ≤ L + f.size + 1 by omega)).out)
        have HK := Lib.hid (decide_eq_true hk0)
        clear hk0
        go_wp2_with fail
        refine HE1.out.mono ?_
        rintro e w' ⟨rfl, rfl⟩
        rw [HK.out]
        go_wp2_with fail
        go_ret
        exact HFIN.out
      by_cases hk0' : k' = 0
      · as_aux_lemma =>
        have HFIN := Lib.hid (((MO.old (t := mg true (k, f) (k', g)) (RD := RDs true Ok) (r := ⟨gq, 0, none⟩) (Φ := Φ) HQS.out (HCL.out.stay HD1.out.stay) (by rw [mg_eq true HWX.out HWY.out, if_neg HXY.out, if_neg (fun h => hk0 h.2), if_pos ⟨rfl, hk0'⟩]; exact HQ.out.stay HD1.out.stay) (HCI.out.below HI.out HD1.out.below) (fun j hj => .inl hj) (Chg.of_below HD1.out.below) HD1.out.stay).mono HCI.out (show L ≤ L + f.size + 1 by omega)).out)
        have HK := Lib.hid (decide_eq_false hk0)
        have HK' := Lib.hid (decide_eq_true hk0')
        clear hk0 hk0'
        go_wp2_with fail
        refine HE1.out.mono ?_
        rintro e w' ⟨rfl, rfl⟩
        rw [HK.out]
        go_wp2_with fail
        refine HE2.out.mono ?_
        rintro e w' ⟨rfl, rfl⟩
        rw [HK'.out]
        go_wp2_with fail
        go_ret
        exact HFIN.out
      have HK := Lib.hid (decide_eq_false hk0)
      have HK' := Lib.hid (decide_eq_false hk0')
      have HK0 := Lib.hid (show ¬ (k = 0 ∨ k' = 0) from fun h => h.elim hk0 hk0')
      clear hk0 hk0'
      go_wp2_with fail
      refine HE1.out.mono ?_
      rintro e w' ⟨rfl, rfl⟩
      rw [HK.out]
      go_wp2_with fail
      refine HE2.out.mono ?_
      rintro e w' ⟨rfl, rfl⟩
      rw [HK'.out]
      go_wp2_with fail
      refine HC1.out.mono ?_
      rintro e w3 ⟨ra, rfl, ka1, ka2, ka3, hb3⟩
      have HKA1 := Lib.hid ka1
      have HKA2 := Lib.hid ka2
      have HKA3 := Lib.hid ka3
      have HB3 := Lib.hid hb3
      have HC2 := Lib.hid (conv_any Z S k' g ⟨gq, 0, none⟩ w3 (HZ.out.ext (below_trans HD1.out.below hb3).size) (HQ.out.stay (Stay.of_below (below_trans HD1.out.below hb3))) HWY.out HQS.out (HCL.out.stay (Stay.of_below (below_trans HD1.out.below hb3))))
      clear ka1 ka2 ka3 hb3 HC1
      go_wp2_with fail
      refine HC2.out.mono ?_
      rintro e w4 ⟨rb, rfl, kb1, kb2, kb3, hb4⟩
      have HFA := Lib.hid (HARR.out ra rb w4 (fun _ => HK0.out) (below_trans HB3.out hb4) (HKA1.out.stay (Stay.of_below hb4)) (HKA2.out.stay (Stay.of_below hb4)) HKA3.out kb1 kb2 kb3)
      clear kb1 kb2 kb3 hb4 HC2
      go_wp2_with fail
      refine HFA.out.mono ?_
      rintro e w5 ⟨r, E, Φ', rfl, hr⟩
      have HFIN := Lib.hid (show MOut S (mg true (k, f) (k', g)) (RDs true Ok) IU Z (L + f.size + 1) Φ w (.returned (.pointer (some r))) w5 from ⟨r, E, Φ', rfl, hr⟩)
      clear hr HFA
      go_wp2_with fail
      go_ret
      exact HFIN.out
    | false =>
      go_wp2_with fail
      refine HC1.out.mono ?_
      rintro e w3 ⟨ra, rfl, ka1, ka2, ka3, hb3⟩
      have HKA1 := Lib.hid ka1
      have HKA2 := Lib.hid ka2
      have HKA3 := Lib.hid ka3
      have HB3 := Lib.hid hb3
      have HC2 := Lib.hid (conv_any Z S k' g ⟨gq, 0, none⟩ w3 (HZ.out.ext (below_trans HD1.out.below hb3).size) (HQ.out.stay (Stay.of_below (below_trans HD1.out.below hb3))) HWY.out HQS.out (HCL.out.stay (Stay.of_below (below_trans HD1.out.below hb3))))
      clear ka1 ka2 ka3 hb3 HC1
      go_wp2_with fail
      refine HC2.out.mono ?_
      rintro e w4 ⟨rb, rfl, kb1, kb2, kb3, hb4⟩
      have HFA := Lib.hid (HARR.out ra rb w4 (fun h => absurd h (by decide)) (below_trans HB3.out hb4) (HKA1.out.stay (Stay.of_below hb4)) (HKA2.out.stay (Stay.of_below hb4)) HKA3.out kb1 kb2 kb3)
      clear kb1 kb2 kb3 hb4 HC2
      go_wp2_with fail
      refine HFA.out.mono ?_
      rintro e w5 ⟨r, E, Φ', rfl, hr⟩
      have HFIN := Lib.hid (show MOut S (mg false (k, f) (k', g)) (RDs false Ok) IU Z (L + f.size + 1) Φ w (.returned (.pointer (some r))) w5 from ⟨r, E, Φ', rfl, hr⟩)
      clear hr HFA
      go_wp2_with fail
      go_ret
      exact HFIN.out
theorem ftU_all (wild : Bool) (Ok : Tr → Tr → Prop) (hOK : OkM wild Ok) (S : List Addr) (n : Nat) : MrgTo wild Ok (.pointer none) IU S n := by
  induction n with
  | zero => intro x y p q w L Φ Z _ h; omega
  | succ n ih => exact ftU_step wild Ok hOK S n ih
end Go.Proofs.Ytcbabfndfikejaa
