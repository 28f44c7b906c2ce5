/- The walks that compare lists of stacks: begins, same, has, within, Same, Apart. Condition: the lists read, and are small. -/
import Derived.Test.YtcbabfndfikejaaStk
namespace Go.Proofs.Ytcbabfndfikejaa
open Go.RowKit
set_option linter.unusedSimpArgs false

theorem Reads.dr {w w' : World} {size n : Nat} {A : Option Addr} {xs : List Value} (h : Reads w w.heap.size size A n xs) (hd : Dr w w') : Reads w' w'.heap.size size A n xs := by obtain ⟨k, rfl⟩ := hd; exact h
theorem Stks.dr {w w' : World} {A : Option Addr} {L : List (List Int)} (h : Stks w A L) (hd : Dr w w') : Stks w' A L := by obtain ⟨k, rfl⟩ := hd; exact h
theorem prefix_step {s p : List Int} {k : Nat} {x : Int} (h : p.take k = s.take k) (hp : p[k]? = some x) (hs : s[k]? = some x) : p.take (k + 1) = s.take (k + 1) := by
  rw [take_snoc' _ _ _ hp, take_snoc' _ _ _ hs, h]
theorem prefix_no {s p : List Int} {k : Nat} {x y : Int} (hp : p[k]? = some x) (hs : s[k]? = some y) (hne : y ≠ x) : p.isPrefixOf s = false := by
  rw [Bool.eq_false_iff]
  intro h
  rw [List.isPrefixOf_iff_prefix] at h
  obtain ⟨t, rfl⟩ := h
  rw [List.getElem?_append_left (List.getElem?_eq_some_iff.1 hp).1, hp] at hs
  cases hs
  exact hne rfl
theorem prefix_yes {s p : List Int} (h : p.take p.length = s.take p.length) : p.isPrefixOf s = true := by
  rw [List.isPrefixOf_iff_prefix]
  rw [List.take_length] at h
  exact ⟨s.drop p.length, by conv => lhs; lhs; rw [h]
                             exact List.take_append_drop ..⟩
set_option maxHeartbeats 1000000 in
theorem begins_any (A A' : Option Addr) (c c' : Nat) (s p : List Int) (w : World) (h : Reads w w.heap.size 1 A s.length (ints s)) (h' : Reads w w.heap.size 1 A' p.length (ints p)) (hm : s.length ≤ 100000) :
    Calls Try.prog 43 #[.slice A s.length c, .slice A' p.length c'] w (EqPost (p.isPrefixOf s) w) := by
  have H := Lib.hid h
  have H' := Lib.hid h'
  clear h h'
  by_cases hl : p.length ≤ s.length
  · have hl' : ¬ (s.length : Int) < (p.length : Int) := by omega
    go_enter Try.func43, Try.ntmps43
    go_wp2_with fail
    go_loopw [13] (fun i wr => ∃ k n : Nat, k ≤ p.length ∧ i = .int .i64 k ∧ Hid (p.take k = s.take k) ∧ wr = w.drewN n) (fun i _ => p.length - (intOf i).toNat)
    case atStart => exact ⟨0, 0, Nat.zero_le _, rfl, Lib.hid rfl, rfl⟩
    case round =>
      obtain ⟨k, n, hk, rfl, HK, rfl⟩ := hrel
      by_cases hlt : k < p.length
      · obtain ⟨b, off, u, rfl, _, hu, hc⟩ := H.out.at1 (k := k) (by omega)
        obtain ⟨x, hx, rfl⟩ := ints_at hu
        obtain ⟨b2, off2, u2, rfl, _, hu2, hc2⟩ := H'.out.at1 hlt
        obtain ⟨y, hy, rfl⟩ := ints_at hu2
        have hk1 : (k : Int) < (s.length : Int) := by omega
        have hk2 : (k : Int) < (p.length : Int) := by omega
        by_cases hxy : x = y
        · subst hxy
          have HK2 := Lib.hid (prefix_step HK.out hy hx)
          clear hu hx hu2 hy
          go_wp2_with fail
          go_quiet (fail)
          go_wp2_with fail
          go_roundw
          case rel => exact ⟨k + 1, _, by omega, by go_num, HK2, rfl⟩
          case measure => simp [intOf]; omega
        · have hxy1 : (x != y) = true := by rw [bne_iff_ne]; exact hxy
          have HN := Lib.hid (prefix_no hy hx hxy)
          clear hu hx hu2 hy
          go_wp2_with fail
          go_quiet (fail)
          go_wp2_with fail
          go_ret
          rw [HN.out]
          exact ⟨rfl, _, World.drewN_drewN ..⟩
      · have hkn : k = p.length := by omega
        subst hkn
        go_wp2_with fail
        go_ret
        rw [prefix_yes HK.out]
        exact ⟨rfl, n, rfl⟩
  · have hl' : (s.length : Int) < (p.length : Int) := by omega
    have HN := Lib.hid (show p.isPrefixOf s = false by
      rw [Bool.eq_false_iff]
      intro h
      rw [List.isPrefixOf_iff_prefix] at h
      exact hl h.length_le)
    go_enter Try.func43, Try.ntmps43
    go_wp2_with fail
    go_ret
    rw [HN.out]
    exact ⟨rfl, Dr.refl _⟩
theorem same_any (A A' : Option Addr) (c c' : Nat) (s p : List Int) (w : World) (h : Reads w w.heap.size 1 A s.length (ints s)) (h' : Reads w w.heap.size 1 A' p.length (ints p)) (hm : s.length ≤ 100000) :
    Calls Try.prog 89 #[.slice A s.length c, .slice A' p.length c'] w (EqPost (decide (s = p)) w) := by
  have HB := Lib.hid (begins_any A A' c c' s p w h h' hm)
  clear h h'
  by_cases hl : s.length = p.length
  · have HE := Lib.hid (show p.isPrefixOf s = decide (s = p) by
      rw [Bool.eq_iff_iff, List.isPrefixOf_iff_prefix, decide_eq_true_iff]
      exact ⟨fun h => (h.eq_of_length hl.symm).symm, fun h => by rw [h]; exact List.prefix_refl _⟩)
    have hl' : ((s.length : Int) == (p.length : Int)) = true := by rw [beq_iff_eq]; omega
    clear hl
    go_enter Try.func89, Try.ntmps89
    go_wp2_with fail
    refine HB.out.mono ?_
    rintro e w1 ⟨rfl, hd⟩
    rw [HE.out]
    have HD := Lib.hid hd
    clear hd
    go_wp2_with fail
    go_ret
    exact ⟨rfl, HD.out⟩
  · have hl' : ((s.length : Int) == (p.length : Int)) = false := by rw [beq_eq_false_iff_ne]; omega
    have HN := Lib.hid (show decide (s = p) = false from decide_eq_false (fun h => hl (by rw [h])))
    clear hl
    go_enter Try.func89, Try.ntmps89
    go_wp2_with fail
    go_ret
    rw [HN.out]
    exact ⟨rfl, Dr.refl _⟩
/-- has, as a test -/
def hasB (wild : Bool) (L : List (List Int)) (s : List Int) : Bool := L.any fun p => decide (p = s) || (wild && p.isPrefixOf s)
theorem hasB_iff {wild : Bool} {L : List (List Int)} {s : List Int} : hasB wild L s = true ↔ hasW wild L s := by
  unfold hasB hasW
  simp only [List.any_eq_true, Bool.or_eq_true, decide_eq_true_iff, Bool.and_eq_true, List.isPrefixOf_iff_prefix]
/-- Lists of stacks that are not too great. -/
def SmL (L : List (List Int)) : Prop := L.length ≤ 100000 ∧ ∀ l ∈ L, l.length ≤ 100000
set_option maxHeartbeats 1000000 in
theorem has_any (wild : Bool) (A A' : Option Addr) (c c' : Nat) (L : List (List Int)) (s : List Int) (w : World) (h : Stks w A L) (hm : SmL L) (h' : Reads w w.heap.size 1 A' s.length (ints s)) (hs : s.length ≤ 100000) :
    Calls Try.prog 62 #[.slice A L.length c, .slice A' s.length c', .bool wild] w (EqPost (hasB wild L s) w) := by
  have H := Lib.hid h
  have H' := Lib.hid h'
  have HM := Lib.hid hm
  have hml := hm.1
  clear h h' hm
  go_enter Try.func62, Try.ntmps62
  go_wp2_with fail
  go_loopw [11] (fun i wr => ∃ k : Nat, k ≤ L.length ∧ i = .int .i64 k ∧ Hid (hasB wild (L.take k) s = false) ∧ Hid (Dr w wr)) (fun i _ => L.length - (intOf i).toNat)
  case atStart => exact ⟨0, Nat.zero_le _, rfl, Lib.hid rfl, Lib.hid (Dr.refl _)⟩
  case round =>
    obtain ⟨k, hk, rfl, HK, HD⟩ := hrel
    by_cases hlt : k < L.length
    · obtain ⟨l, hl⟩ : ∃ l, L[k]? = some l := ⟨_, List.getElem?_eq_getElem hlt⟩
      obtain ⟨b, off, A2, c2, rfl, hc, hrow⟩ := (H.out.dr HD.out).at_ hl
      have HROW := Lib.hid hrow.reads
      have hll := HM.out.2 l (List.mem_of_getElem? hl)
      have HT := Lib.hid (show hasB wild (L.take (k + 1)) s = (hasB wild (L.take k) s || (decide (l = s) || (wild && l.isPrefixOf s))) by
        unfold hasB; rw [take_snoc' _ _ _ hl]; simp)
      have HMEM := Lib.hid (List.mem_of_getElem? hl)
      clear hrow hl
      go_wp2_with fail
      refine (same_any A2 A' c2 c' l s wr HROW.out (H'.out.dr HD.out) hll).mono ?_
      rintro e w2 ⟨rfl, hd2⟩
      have HD2 := Lib.hid (HD.out.trans hd2)
      have HR2 := Lib.hid (HROW.out.dr hd2)
      clear hd2
      by_cases he : l = s
      · have he' : decide (l = s) = true := decide_eq_true he
        have HY := Lib.hid (show hasB wild L s = true by
          unfold hasB
          rw [List.any_eq_true]
          exact ⟨l, HMEM.out, by rw [he']; rfl⟩)
        clear he
        go_wp2_with fail
        go_ret
        rw [HY.out]
        exact ⟨rfl, HD2.out⟩
      · have he' : decide (l = s) = false := decide_eq_false he
        rw [he', Bool.false_or] at HT
        rw [he']
        clear he
        cases wild
        · go_wp2_with fail
          go_roundw
          case rel => exact ⟨k + 1, by omega, by go_num, Lib.hid (by rw [HT.out, HK.out]; rfl), HD2⟩
          case measure => simp [intOf]; omega
        · go_wp2_with fail
          refine (begins_any A' A2 c' c2 s l w2 (H'.out.dr HD2.out) HR2.out hs).mono ?_
          rintro e w3 ⟨rfl, hd3⟩
          have HD3 := Lib.hid (HD2.out.trans hd3)
          clear hd3
          generalize hQ : l.isPrefixOf s = q at *
          cases q
          · go_wp2_with fail
            go_roundw
            case rel => exact ⟨k + 1, by omega, by go_num, Lib.hid (by rw [HT.out, HK.out]; rfl), HD3⟩
            case measure => simp [intOf]; omega
          · have HY := Lib.hid (show hasB true L s = true by
              unfold hasB
              rw [List.any_eq_true]
              exact ⟨l, HMEM.out, by rw [hQ]; simp⟩)
            clear hQ
            go_wp2_with fail
            go_ret
            rw [HY.out]
            exact ⟨rfl, HD3.out⟩
    · have hkn : k = L.length := by omega
      subst hkn
      rw [List.take_length] at HK
      go_wp2_with fail
      go_ret
      rw [HK.out]
      exact ⟨rfl, HD.out⟩
def withinB (wild : Bool) (a b : List (List Int)) : Bool := a.all fun s => hasB wild b s
set_option maxHeartbeats 1000000 in
theorem within_any (wild : Bool) (A A' : Option Addr) (c c' : Nat) (L M : List (List Int)) (w : World) (h : Stks w A L) (hm : SmL L) (h' : Stks w A' M) (hm' : SmL M) :
    Calls Try.prog 45 #[.slice A L.length c, .slice A' M.length c', .bool wild] w (EqPost (withinB wild L M) w) := by
  have H := Lib.hid h
  have H' := Lib.hid h'
  have HM := Lib.hid hm
  have HM' := Lib.hid hm'
  have hml := hm.1
  clear h h' hm hm'
  go_enter Try.func45, Try.ntmps45
  go_wp2_with fail
  go_loopw [11] (fun i wr => ∃ k : Nat, k ≤ L.length ∧ i = .int .i64 k ∧ Hid (withinB wild (L.take k) M = true) ∧ Hid (Dr w wr)) (fun i _ => L.length - (intOf i).toNat)
  case atStart => exact ⟨0, Nat.zero_le _, rfl, Lib.hid rfl, Lib.hid (Dr.refl _)⟩
  case round =>
    obtain ⟨k, hk, rfl, HK, HD⟩ := hrel
    by_cases hlt : k < L.length
    · obtain ⟨l, hl⟩ : ∃ l, L[k]? = some l := ⟨_, List.getElem?_eq_getElem hlt⟩
      obtain ⟨b, off, A2, c2, rfl, hc, hrow⟩ := (H.out.dr HD.out).at_ hl
      have HROW := Lib.hid hrow.reads
      have hll := HM.out.2 l (List.mem_of_getElem? hl)
      have HT := Lib.hid (show withinB wild (L.take (k + 1)) M = (withinB wild (L.take k) M && hasB wild M l) by
        unfold withinB; rw [take_snoc' _ _ _ hl]; simp)
      have HMEM := Lib.hid (List.mem_of_getElem? hl)
      clear hrow hl
      go_wp2_with fail
      refine (has_any wild A' A2 c' c2 M l wr (H'.out.dr HD.out) HM'.out HROW.out hll).mono ?_
      rintro e w2 ⟨rfl, hd2⟩
      have HD2 := Lib.hid (HD.out.trans hd2)
      clear hd2
      generalize hQ : hasB wild M l = q at *
      cases q
      · have HY := Lib.hid (show withinB wild L M = false by
          rw [Bool.eq_false_iff]
          intro h
          have := List.all_eq_true.1 h l HMEM.out
          rw [hQ] at this; cases this)
        clear hQ
        go_wp2_with fail
        go_ret
        rw [HY.out]
        exact ⟨rfl, HD2.out⟩
      · clear hQ
        go_wp2_with fail
        go_roundw
        case rel => exact ⟨k + 1, by omega, by go_num, Lib.hid (by rw [HT.out, HK.out]; rfl), HD2⟩
        case measure => simp [intOf]; omega
    · have hkn : k = L.length := by omega
      subst hkn
      rw [List.take_length] at HK
      go_wp2_with fail
      go_ret
      rw [HK.out]
      exact ⟨rfl, HD.out⟩
def sameB (wild : Bool) (a b : List (List Int)) : Bool := withinB wild a b && withinB wild b a
theorem Same_any (wild : Bool) (A A' : Option Addr) (c c' : Nat) (L M : List (List Int)) (w : World) (h : Stks w A L) (hm : SmL L) (h' : Stks w A' M) (hm' : SmL M) :
    Calls Try.prog 32 #[.slice A L.length c, .slice A' M.length c', .bool wild] w (EqPost (sameB wild L M) w) := by
  have H := Lib.hid h
  have H' := Lib.hid h'
  have HM := Lib.hid hm
  have HM' := Lib.hid hm'
  clear h h' hm hm'
  have HS := Lib.hid (show sameB wild L M = (withinB wild L M && withinB wild M L) from rfl)
  rw [HS.out]
  clear HS
  go_enter Try.func32, Try.ntmps32
  go_wp2_with fail
  refine (within_any wild A A' c c' L M w H.out HM.out H'.out HM'.out).mono ?_
  rintro e w1 ⟨rfl, hd⟩
  have HD := Lib.hid hd
  clear hd
  generalize withinB wild L M = q at *
  cases q
  · go_wp2_with fail
    go_ret
    exact ⟨by simp, HD.out⟩
  · go_wp2_with fail
    refine (within_any wild A' A c' c M L w1 (H'.out.dr HD.out) HM'.out (H.out.dr HD.out) HM.out).mono ?_
    rintro e w2 ⟨rfl, hd2⟩
    have HD2 := Lib.hid (HD.out.trans hd2)
    clear hd2
    go_wp2_with fail
    go_ret
    exact ⟨by simp, HD2.out⟩
theorem sameB_of {wild : Bool} {L M : List (List Int)} (h : ∀ st, hasW wild L st ↔ hasW wild M st) : sameB wild L M = true := by
  unfold sameB withinB
  rw [Bool.and_eq_true, List.all_eq_true, List.all_eq_true]
  exact ⟨fun s hs => hasB_iff.2 ((h s).1 (hasW_self hs)), fun s hs => hasB_iff.2 ((h s).2 (hasW_self hs))⟩
end Go.Proofs.Ytcbabfndfikejaa
