/- The making of a set by steps, by the package. Condition: the steps are such that the reference says something. -/
import Derived.Test.YtckdcceglmlinaaDoors
namespace Go.Proofs.Ytckdcceglmlinaa
open Go.RowKit
set_option linter.unusedSimpArgs false

theorem refB_prefix {z b : List Bool} {l m : List St} (h : refB z (l ++ m) = some b) : ∃ b', refB z l = some b' ∧ refB b' m = some b := by
  induction l generalizing z with
  | nil => exact ⟨z, rfl, h⟩
  | cons a r ih =>
    simp only [List.cons_append, refB] at h ⊢
    cases hs : refS z a with
    | none => rw [hs] at h; cases h
    | some z' => rw [hs] at h; exact ih h
theorem refB_next {z b bk : List Bool} {l : List St} {k : Nat} {s : St} (h : refB z l = some b) (hk : l[k]? = some s) (hb : refB z (l.take k) = some bk) : ∃ bk', refS bk s = some bk' ∧ refB z (l.take (k + 1)) = some bk' := by
  have e : refB z (l.take (k + 1)) = refS bk s := by rw [take_snoc' _ _ _ hk, refB_snoc hb]
  have h2 : refB z (l.take (k + 1) ++ l.drop (k + 1)) = some b := by rw [List.take_append_drop]; exact h
  obtain ⟨b', h3, _⟩ := refB_prefix h2
  exact ⟨b', by rw [← e, h3], h3⟩
theorem refS_cases {bs bs' : List Bool} {s : St} (hl : bs.length = 62) (h : refS bs s = some bs') : bs'.length = 62 ∧
    ((s.op = 0 ∧ 0 ≤ s.a ∧ s.a ≤ 60 ∧ rangesF bs' = addI s.a (s.a + 1) (rangesF bs)) ∨ (s.op = 1 ∧ 0 ≤ s.b ∧ s.b ≤ 60 ∧ rangesF bs' = addI s.a (s.b + 1) (rangesF bs)) ∨
      (s.op = 2 ∧ NoSplit s.a (rangesF bs) ∧ rangesF bs' = rmOne s.a (rangesF bs)) ∨ (s.op = 3 ∧ MayTake s.a s.b (rangesF bs) ∧ rangesF bs' = rmR s.a s.b (rangesF bs))) := by
  unfold refS at h
  split at h
  · cases h
  · rename_i hsm
    have hsm' : 0 ≤ s.a ∧ s.a ≤ 60 ∧ 0 ≤ s.b ∧ s.b ≤ 61 := by simp [small] at hsm; omega
    split at h
    · rename_i h0
      split at h
      · rename_i h1; cases h; exact ⟨(addF_length ..).trans hl, .inl ⟨h0, hsm'.1, hsm'.2.1, ranges_add hl h1⟩⟩
      · cases h
    · split at h
      · rename_i h1
        split at h
        · rename_i h2; cases h; exact ⟨(addF_length ..).trans hl, .inr (.inl ⟨h1, hsm'.2.2.1, h2.1, ranges_add hl h2.2⟩)⟩
        · cases h
      · split at h
        · rename_i h2
          split at h
          · rename_i h3; cases h; exact ⟨(takeF_length ..).trans hl, .inr (.inr (.inl ⟨h2, noSplit_of h3, ranges_one hl h3⟩))⟩
          · cases h
        · split at h
          · rename_i h3
            split at h
            · rename_i h4; cases h; exact ⟨(takeF_length ..).trans hl, .inr (.inr (.inr ⟨h3, mayTake_of h4, rmR_of hl h4⟩))⟩
            · cases h
          · cases h

theorem SetAt.row {w : World} {base g x : Nat} {L : List Rg} (h : SetAt w base g (some x) L) : base ≤ x ∧ x < w.heap.size := by
  obtain ⟨c, _, h2⟩ := h.open_
  exact h2.lt x rfl
theorem SetAt.lt {w : World} {base g : Nat} {r : Option Nat} {L : List Rg} (h : SetAt w base g r L) : base ≤ g ∧ g < w.heap.size := by
  obtain ⟨A, c, h1, h2, h3, h4⟩ := h
  exact ⟨h4, h1.lt⟩
theorem KeepS.belowS {w a b : World} {base g : Nat} {r r' : Option Nat} {L : List Rg} (hb : Below base w a) (hs : SetAt a base g r L) (k : KeepS a b g r r') : Below base w b :=
  hb.trans (k.toBelow (Nat.le_trans hs.lt.1 (Nat.le_of_lt hs.lt.2)) hs.lt.1 (fun x hx => by subst hx; exact hs.row.1))
theorem zeros_ranges : rangesF zeros = [] := by decide +kernel

/-- a set that was made -/
def MadeSet (L : List Rg) (w : World) (e : Ending) (w' : World) : Prop := ∃ g r, e = .returned (.pointer (some ⟨g, 0, none⟩)) ∧ SetAt w' w.heap.size g r L ∧ Below w.heap.size w w'

set_option maxRecDepth 10000 in
set_option maxHeartbeats 4000000 in
theorem implBuild_any (A : Option Addr) (c : Nat) (sts : List St) (bs : List Bool) (w : World) (h : Reads w w.heap.size 3 A sts.length (flat3 sts)) (hm : sts.length ≤ 2147483647) (hr : refB zeros sts = some bs) :
    Calls Try.prog 25 #[.slice A sts.length c] w (MadeSet (rangesF bs) w) := by
  have H3 := Lib.hid h
  have HR := Lib.hid hr
  clear h hr
  go_enter Try.func25, Try.ntmps25
  go_wp2_with fail
  refine (newSet_any w).mono ?_
  rintro e w1 ⟨rfl, hs1, hb1⟩
  have HS1 := Lib.hid hs1
  have HB1 := Lib.hid hb1
  clear hs1 hb1
  go_wp2_with fail
  go_loopw [9] (fun i wr => ∃ (k : Nat) (bk : List Bool) (r : Option Nat), k ≤ sts.length ∧ i = .int .i64 k ∧ Hid (bk.length = 62) ∧ Hid (refB zeros (sts.take k) = some bk) ∧ Hid (SetAt wr w.heap.size w.heap.size r (rangesF bk)) ∧ Hid (Below w.heap.size w wr)) (fun i _ => sts.length - (intOf i).toNat)
  case atStart => exact ⟨0, zeros, none, Nat.zero_le _, rfl, Lib.hid rfl, Lib.hid rfl, Lib.hid (by rw [zeros_ranges]; exact HS1.out), HB1⟩
  case round =>
    obtain ⟨k, bk, r, hk, rfl, HL, HRB, HS, HB⟩ := hrel
    by_cases hlt : k < sts.length
    · have hks := List.getElem?_eq_getElem hlt
      generalize sts[k] = st at *
      obtain ⟨b1, off, rfl, _, ca, cb, cc⟩ := (H3.out.ext HB.out).st hks
      obtain ⟨bk', hS, hB'⟩ := refB_next HR.out hks HRB.out
      obtain ⟨hl', hcs⟩ := refS_cases HL.out hS
      have HL' := Lib.hid hl'
      have HRB' := Lib.hid hB'
      have hsm := ranges_sm HL.out
      have hlen := hsm.1
      have HSM := Lib.hid hsm
      have HLT := Lib.hid (norm_lt (rangesF_norm bk).1)
      obtain ⟨o, a, b⟩ := st
      simp only at ca cb cc hcs
      obtain ⟨W0, hW0⟩ : ∃ W0, W0 = wr.alloc (Obj.cells #[Value.int IntKind.i64 o, Value.int IntKind.i64 a, Value.int IntKind.i64 b] 50) := ⟨_, rfl⟩
      have d1 : W0.cell? ⟨wr.heap.size, 1, none⟩ = some (.int .i64 a) := by rw [hW0]; simp [World.cell?_alloc_new]
      have d2 : W0.cell? ⟨wr.heap.size, 2, none⟩ = some (.int .i64 b) := by rw [hW0]; simp [World.cell?_alloc_new]
      have hbW : Below wr.heap.size wr W0 := by rw [hW0]; exact (Below.refl _ _).alloc (Nat.le_refl _) _
      have HSW := Lib.hid (HS.out.ext hbW)
      have HBW := Lib.hid (below_trans' HB.out HB.out.size hbW)
      have HW0 := Lib.hid hW0
      clear hks hS hB' hl' hsm hbW hW0
      rcases hcs with ⟨ho, ha, hb, hrg⟩ | ⟨ho, ha, hb, hrg⟩ | ⟨ho, hns, hrg⟩ | ⟨ho, hmt, hrg⟩
      · subst ho
        have HRG := Lib.hid hrg
        clear hrg d2
        go_wp2_with fail
        rw [← HW0.out]
        clear HW0
        refine (zzAddOne_any w.heap.size w.heap.size r (rangesF bk) a W0 HSW.out hlen (by omega)).mono ?_
        rintro e w2 ⟨r', rfl, hs2, hk2⟩
        have HS2 := Lib.hid hs2
        have HB2 := Lib.hid (KeepS.belowS HBW.out HSW.out hk2)
        clear hs2 hk2
        go_wp2_with fail
        go_roundw
        case rel => exact ⟨k + 1, bk', r', by omega, by go_num, HL', HRB', Lib.hid (by rw [HRG.out]; exact HS2.out), HB2⟩
        case measure => simp [intOf]; omega
      · subst ho
        have HRG := Lib.hid hrg
        clear hrg
        go_wp2_with fail
        rw [← HW0.out]
        clear HW0
        refine (zzAddRange_any w.heap.size w.heap.size r (rangesF bk) a b W0 HSW.out hlen (by omega)).mono ?_
        rintro e w2 ⟨r', rfl, hs2, hk2⟩
        have HS2 := Lib.hid hs2
        have HB2 := Lib.hid (KeepS.belowS HBW.out HSW.out hk2)
        clear hs2 hk2
        go_wp2_with fail
        go_roundw
        case rel => exact ⟨k + 1, bk', r', by omega, by go_num, HL', HRB', Lib.hid (by rw [HRG.out]; exact HS2.out), HB2⟩
        case measure => simp [intOf]; omega
      · subst ho
        have HRG := Lib.hid hrg
        have HNS := Lib.hid hns
        clear hrg hns d2
        go_wp2_with fail
        rw [← HW0.out]
        clear HW0
        refine (zzRemoveOne_any w.heap.size w.heap.size r (rangesF bk) a W0 HSW.out HSM.out HNS.out).mono ?_
        rintro e w2 ⟨r', rfl, hs2, hk2⟩
        have HS2 := Lib.hid hs2
        have HB2 := Lib.hid (KeepS.belowS HBW.out HSW.out hk2)
        clear hs2 hk2
        go_wp2_with fail
        go_roundw
        case rel => exact ⟨k + 1, bk', r', by omega, by go_num, HL', HRB', Lib.hid (by rw [HRG.out]; exact HS2.out), HB2⟩
        case measure => simp [intOf]; omega
      · subst ho
        have HRG := Lib.hid hrg
        have HMT := Lib.hid hmt
        clear hrg hmt
        go_wp2_with fail
        rw [← HW0.out]
        clear HW0
        refine (NewInterval_any a b W0).mono ?_
        rintro e w1' ⟨rfl, hb1⟩
        have HSX := Lib.hid (HSW.out.ext hb1)
        have HBX := Lib.hid (below_trans' HBW.out HBW.out.size hb1)
        clear hb1
        go_wp2_with fail
        refine (zzRemoveRange_any w.heap.size w.heap.size r (rangesF bk) a b w1' HSX.out HSM.out HLT.out HMT.out).mono ?_
        rintro e w2 ⟨r', rfl, hs2, hk2⟩
        have HS2 := Lib.hid hs2
        have HB2 := Lib.hid (KeepS.belowS HBX.out HSX.out hk2)
        clear hs2 hk2
        go_wp2_with fail
        go_roundw
        case rel => exact ⟨k + 1, bk', r', by omega, by go_num, HL', HRB', Lib.hid (by rw [HRG.out]; exact HS2.out), HB2⟩
        case measure => simp [intOf]; omega
    · have hkn : k = sts.length := by omega
      have HBK := Lib.hid (show bk = bs by have := HRB.out; rw [hkn, List.take_length, HR.out] at this; cases this; rfl)
      clear hkn
      go_wp2_with fail
      go_ret
      exact ⟨_, r, rfl, by rw [← HBK.out]; exact HS.out, HB.out⟩
end Go.Proofs.Ytckdcceglmlinaa
