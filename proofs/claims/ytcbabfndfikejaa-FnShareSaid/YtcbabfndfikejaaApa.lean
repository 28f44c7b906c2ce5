/- The walk of spec.Apart. Condition: the list reads, and is small. -/
import Derived.Test.YtcbabfndfikejaaHas
namespace Go.Proofs.Ytcbabfndfikejaa
open Go.RowKit
set_option linter.unusedSimpArgs false

def apart1 (a b : List Int) : Bool := !(decide (a.length < b.length) && a.isPrefixOf b)
def apartB (L : List (List Int)) : Bool := L.all fun a => L.all fun b => apart1 a b
theorem apartB_iff {L : List (List Int)} : apartB L = true ↔ ApartL L := by
  unfold apartB ApartL apart1
  simp only [List.all_eq_true, Bool.not_eq_true', Bool.and_eq_false_iff, decide_eq_false_iff_not]
  constructor
  · intro h a ha b hb hl hp
    rcases h a ha b hb with h | h
    · exact h hl
    · rw [Bool.eq_false_iff] at h
      exact h (List.isPrefixOf_iff_prefix.2 hp)
  · intro h a ha b hb
    by_cases hl : a.length < b.length
    · right
      rw [Bool.eq_false_iff]
      intro hp
      exact h a ha b hb hl (List.isPrefixOf_iff_prefix.1 hp)
    · exact .inl hl
theorem all_take {α : Type} {L : List α} {k : Nat} {l : α} {f : α → Bool} (hl : L[k]? = some l) : (L.take (k + 1)).all f = ((L.take k).all f && f l) := by
  rw [take_snoc' _ _ _ hl]; simp
set_option maxHeartbeats 2000000 in
theorem Apart_any (A : Option Addr) (c : Nat) (L : List (List Int)) (w : World) (h : Stks w A L) (hm : SmL L) :
    Calls Try.prog 30 #[.slice A L.length c] w (EqPost (apartB L) w) := by
  have H := Lib.hid h
  have HM := Lib.hid hm
  have hml := hm.1
  clear h hm
  go_enter Try.func30, Try.ntmps30
  go_wp2_with fail
  go_loopw [9] (fun i wr => ∃ k : Nat, k ≤ L.length ∧ i = .int .i64 k ∧ Hid ((L.take k).all (fun a => L.all fun b => apart1 a b) = true) ∧ Hid (Dr w wr)) (fun i _ => L.length - (intOf i).toNat)
  case atStart => exact ⟨0, Nat.zero_le _, rfl, Lib.hid rfl, Lib.hid (Dr.refl _)⟩
  case round =>
    obtain ⟨k, hk, rfl, HK, HD⟩ := hrel
    by_cases hlt : k < L.length
    · obtain ⟨a, ha⟩ : ∃ l, L[k]? = some l := ⟨_, List.getElem?_eq_getElem hlt⟩
      obtain ⟨b, off, A2, c2, rfl, hc, hrow⟩ := (H.out.dr HD.out).at_ ha
      have HROW := Lib.hid hrow.reads
      have hll := HM.out.2 a (List.mem_of_getElem? ha)
      have HT := Lib.hid (all_take (f := fun a => L.all fun b => apart1 a b) ha)
      have HMEM := Lib.hid (List.mem_of_getElem? ha)
      obtain ⟨wo, hwo⟩ : ∃ wo, wo = wr := ⟨_, rfl⟩
      have HWO := Lib.hid hwo
      rw [← hwo] at HROW
      have HD0 := Lib.hid (show Dr wo wr by rw [hwo]; exact Dr.refl _)
      clear hrow ha hwo
      go_wp2_with fail
      go_loopw [15] (fun i wr => ∃ m : Nat, m ≤ L.length ∧ i = .int .i64 m ∧ Hid ((L.take m).all (apart1 a) = true) ∧ Hid (Dr w wr) ∧ Hid (Dr wo wr)) (fun i _ => L.length - (intOf i).toNat)
      case atStart => exact ⟨0, Nat.zero_le _, rfl, Lib.hid rfl, HD, HD0⟩
      case round =>
        clear HD HD0 HWO
        obtain ⟨m, hm, rfl, HN, HD, HD0⟩ := hrel
        by_cases hlt2 : m < L.length
        · obtain ⟨l, hl⟩ : ∃ l, L[m]? = some l := ⟨_, List.getElem?_eq_getElem hlt2⟩
          obtain ⟨b', off', A3, c3, e3, hc3, hrow3⟩ := (H.out.dr HD.out).at_ hl
          cases e3
          have HROW3 := Lib.hid hrow3.reads
          have hll3 := HM.out.2 l (List.mem_of_getElem? hl)
          have HT2 := Lib.hid (all_take (f := apart1 a) hl)
          have HMEM2 := Lib.hid (List.mem_of_getElem? hl)
          clear hrow3 hl
          by_cases hlen : a.length < l.length
          · have hlen' : (a.length : Int) < (l.length : Int) := by omega
            have HAP := Lib.hid (show apart1 a l = !a.isPrefixOf l by unfold apart1; rw [decide_eq_true hlen]; rfl)
            go_wp2_with fail
            refine (begins_any A3 A2 c3 c2 l a wr HROW3.out (HROW.out.dr HD0.out) hll3).mono ?_
            rintro e w3 ⟨rfl, hd3⟩
            have HD3 := Lib.hid (HD.out.trans hd3)
            have HD03 := Lib.hid (HD0.out.trans hd3)
            clear hd3
            generalize a.isPrefixOf l = q at *
            cases q
            · go_wp2_with fail
              go_roundw
              case rel => exact ⟨m + 1, by omega, by go_num, Lib.hid (by rw [HT2.out, HN.out, HAP.out]; rfl), HD3, HD03⟩
              case measure => simp [intOf]; omega
            · have HY := Lib.hid (show apartB L = false by
                rw [Bool.eq_false_iff]
                intro h
                have h1 := List.all_eq_true.1 (List.all_eq_true.1 h a HMEM.out) l HMEM2.out
                rw [HAP.out] at h1; cases h1)
              go_wp2_with fail
              go_ret
              rw [HY.out]
              exact ⟨rfl, HD3.out⟩
          · have hlen' : ¬ (a.length : Int) < (l.length : Int) := by omega
            have HAP := Lib.hid (show apart1 a l = true by unfold apart1; rw [decide_eq_false hlen]; rfl)
            go_wp2_with fail
            go_roundw
            case rel => exact ⟨m + 1, by omega, by go_num, Lib.hid (by rw [HT2.out, HN.out, HAP.out]; rfl), HD, HD0⟩
            case measure => simp [intOf]; omega
        · have hmn : m = L.length := by omega
          subst hmn
          rw [List.take_length] at HN
          go_wp2_with fail
          go_roundw
          case rel => exact ⟨k + 1, by omega, by go_num, Lib.hid (by rw [HT.out, HK.out, HN.out]; rfl), HD⟩
          case measure => simp [intOf]; omega
    · have hkn : k = L.length := by omega
      subst hkn
      rw [List.take_length] at HK
      have HY := Lib.hid (show apartB L = true from HK.out)
      go_wp2_with fail
      go_ret
      rw [HY.out]
      exact ⟨rfl, HD.out⟩
end Go.Proofs.Ytcbabfndfikejaa
