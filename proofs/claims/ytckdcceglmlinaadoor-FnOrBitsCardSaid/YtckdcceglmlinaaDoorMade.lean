/- The making of a set of bits by steps, by the package. Condition: the steps are such that the reference says something. -/
import Derived.Test.YtckdcceglmlinaaDoorAdd
namespace Go.Proofs.YtckdcceglmlinaaDoor
open Go.RowKit
set_option linter.unusedSimpArgs false

/-- steps that came in -/
def StIn (w : World) (A : Option Addr) (sts : List St) : Prop := Reads w w.heap.size 3 A sts.length (flat3 sts) ∧ sts.length ≤ 2147483647
theorem StIn.ext {w w' : World} {A : Option Addr} {sts : List St} (h : StIn w A sts) (hb : Below w.heap.size w w') : StIn w' A sts := ⟨h.1.ext hb, h.2⟩
theorem refB_prefix {z b : List Bool} {l m : List St} (h : refB z (l ++ m) = some b) : ∃ b', refB z l = some b' ∧ refB b' m = some b := by
  induction l generalizing z with
  | nil => exact ⟨z, rfl, h⟩
  | cons a r ih =>
    simp only [List.cons_append, refB] at h ⊢
    cases hs : refS z a with
    | none => rw [hs] at h; cases h
    | some z' => rw [hs] at h; exact ih h
theorem refB_next {z b bk : List Bool} {l : List St} {k : Nat} {s : St} (h : refB z l = some b) (hk : l[k]? = some s) (hb : refB z (l.take k) = some bk) : ∃ bk', refS bk s = some bk' ∧ refB z (l.take (k + 1)) = some bk' := by
  have e : refB z (l.take (k + 1)) = refS bk s := by rw [take_snoc' _ _ _ hk, refB_snoc hb]
  have h2 : refB z (l.take (k + 1) ++ l.drop (k + 1)) = some b := by rw [List.take_append_drop]; exact h
  obtain ⟨b', h3, _⟩ := refB_prefix h2
  exact ⟨b', by rw [← e, h3], h3⟩
theorem zzAdd_any (base g v : Nat) (ws : List Nat) (w : World) (h : BitO w base g ws) (hs : Sm ws) (hv : v ≤ 1000) :
    Calls Tryd.prog 20 #[.pointer (some ⟨g, 0, none⟩), .int .i64 (v : Int)] w (BitPost base g (addW ws v) w) := by
  have HC := Lib.hid (add_any base g v ws w h hs hv)
  clear h hs
  go_enter Tryd.func20, Tryd.ntmps20
  go_wp2_with fail
  refine HC.out.mono ?_
  rintro e w1 ⟨rfl, h⟩
  have HH := Lib.hid h
  clear h
  go_wp2_with fail
  go_end0
  exact ⟨rfl, HH.out⟩
theorem zzClear_any (base g v : Nat) (ws : List Nat) (w : World) (h : BitO w base g ws) (hs : Sm ws) (hv : v ≤ 1000) :
    Calls Tryd.prog 21 #[.pointer (some ⟨g, 0, none⟩), .int .i64 (v : Int)] w (BitPost base g (clearW ws v) w) := by
  have HC := Lib.hid (clear_any base g v ws w h hs hv)
  clear h hs
  go_enter Tryd.func21, Tryd.ntmps21
  go_wp2_with fail
  refine HC.out.mono ?_
  rintro e w1 ⟨rfl, h⟩
  have HH := Lib.hid h
  clear h
  go_wp2_with fail
  go_end0
  exact ⟨rfl, HH.out⟩

/-- a set that was made -/
def Sm5 (ws : List Nat) : Prop := (∀ x ∈ ws, x < 18446744073709551616) ∧ ws.length ≤ 5
theorem Sm5.sm {ws : List Nat} (h : Sm5 ws) : Sm ws := ⟨h.1, by have := h.2; omega⟩
theorem Sm5.add {ws : List Nat} (h : Sm5 ws) {v : Nat} (hv : v < 300) : Sm5 (addW ws v) := ⟨addW_lt h.1 v, by rw [addW_len]; have := h.2; omega⟩
theorem Sm5.clear {ws : List Nat} (h : Sm5 ws) (v : Nat) : Sm5 (clearW ws v) := ⟨clearW_lt h.1 v, by rw [clearW_len]; exact h.2⟩
def MadeB (bs : List Bool) (w : World) (e : Ending) (w' : World) : Prop := ∃ g ws, e = .returned (.pointer (some ⟨g, 0, none⟩)) ∧ BitO w' w.heap.size g ws ∧ Agree ws bs ∧ Sm5 ws ∧ Below w.heap.size w w'
theorem newSet_any (w : World) : Calls Tryd.prog 19 #[] w (fun e w' => ∃ g, e = .returned (.pointer (some ⟨g, 0, none⟩)) ∧ BitO w' w.heap.size g [] ∧ Below w.heap.size w w') := by
  go_enter Tryd.func19, Tryd.ntmps19
  go_wp2_with fail
  go_ret
  refine ⟨w.heap.size, rfl, ⟨none, 0, ?_, Nat.le_refl _, ⟨rfl, .inl ⟨rfl, rfl⟩⟩⟩, (Below.refl _ _).alloc (Nat.le_refl _) _⟩
  exact Blk.new w 53 _

set_option maxRecDepth 10000 in
set_option maxHeartbeats 4000000 in
theorem implBits_any (A : Option Addr) (c : Nat) (sts : List St) (bs : List Bool) (w : World) (h : StIn w A sts) (hr : refB z400 sts = some bs) :
    Calls Tryd.prog 11 #[.slice A sts.length c] w (MadeB bs w) := by
  have H3 := Lib.hid h.1
  have hm := h.2
  have HR := Lib.hid hr
  clear h hr
  go_enter Tryd.func11, Tryd.ntmps11
  go_wp2_with fail
  refine (newSet_any w).mono ?_
  rintro e w1 ⟨g, rfl, ho, hb⟩
  have HO1 := Lib.hid ho
  have HB1 := Lib.hid hb
  clear ho hb
  go_wp2_with fail
  go_loopw [9] (fun i wr => ∃ (k : Nat) (ws : List Nat) (bk : List Bool), k ≤ sts.length ∧ i = .int .i64 k ∧ Hid (refB z400 (sts.take k) = some bk) ∧ Hid (Agree ws bk) ∧ Hid (Sm5 ws) ∧ Hid (BitO wr w.heap.size g ws) ∧ Hid (Below w.heap.size w wr)) (fun i _ => sts.length - (intOf i).toNat)
  case atStart => exact ⟨0, [], z400, Nat.zero_le _, rfl, Lib.hid rfl, Lib.hid (Agree.start 400), Lib.hid ⟨by simp, by simp⟩, HO1, HB1⟩
  case round =>
    clear HO1 HB1
    obtain ⟨k, ws, bk, hk, rfl, HK, HA, HS, HO, HB⟩ := hrel
    by_cases hlt : k < sts.length
    · have hks := List.getElem?_eq_getElem hlt
      generalize sts[k] = st at *
      obtain ⟨b1, off, rfl, _, ca, cb, cc⟩ := (H3.out.ext HB.out).st hks
      obtain ⟨bk', hs1, hs2⟩ := refB_next HR.out hks HK.out
      have hbl : bk.length = 400 := by rw [refB_len HK.out]; simp [z400]
      have HK2 := Lib.hid hs2
      clear hks hs2
      obtain ⟨o, a, b⟩ := st
      simp only at ca cb cc
      unfold refS at hs1
      split at hs1
      · rename_i hcond
        simp only at hcond
        obtain ⟨ha0, ha1, hop⟩ := hcond
        obtain ⟨v, rfl⟩ := Int.eq_ofNat_of_zero_le ha0
        simp only [Int.toNat_natCast, Option.some.injEq] at hs1
        have HE := Lib.hid hs1
        have hv : v < 300 := by omega
        have HOA := Lib.hid (HO.out.ext ((Below.refl _ wr).alloc (Nat.le_refl _) (.cells #[.int .i64 o, .int .i64 (v : Int), .int .i64 b] 39)))
        have HBA := Lib.hid (HB.out.alloc HB.out.size (.cells #[.int .i64 o, .int .i64 (v : Int), .int .i64 b] 39))
        clear hs1 ha0 ha1
        rcases hop with ho | ho
        · subst ho
          have HA2 := Lib.hid (show Agree (addW ws v) bk' by rw [← HE.out]; exact HA.out.add (by omega))
          have HS2 := Lib.hid (HS.out.add hv)
          go_wp2_with fail
          refine (zzAdd_any w.heap.size g v ws _ HOA.out HS.out.sm (by omega)).mono ?_
          rintro e w4 ⟨rfl, ho4, hb4⟩
          have HO4 := Lib.hid ho4
          have HB4 := Lib.hid (HBA.out.trans hb4)
          clear ho4 hb4
          go_wp2_with fail
          go_roundw
          case rel => exact ⟨k + 1, addW ws v, bk', by omega, by go_num, HK2, HA2, HS2, HO4, HB4⟩
          case measure => simp [intOf]; omega
        · subst ho
          have HA2 := Lib.hid (show Agree (clearW ws v) bk' by rw [← HE.out]; exact HA.out.clear (by omega))
          have HS2 := Lib.hid (HS.out.clear v)
          go_wp2_with fail
          refine (zzClear_any w.heap.size g v ws _ HOA.out HS.out.sm (by omega)).mono ?_
          rintro e w4 ⟨rfl, ho4, hb4⟩
          have HO4 := Lib.hid ho4
          have HB4 := Lib.hid (HBA.out.trans hb4)
          clear ho4 hb4
          go_wp2_with fail
          go_roundw
          case rel => exact ⟨k + 1, clearW ws v, bk', by omega, by go_num, HK2, HA2, HS2, HO4, HB4⟩
          case measure => simp [intOf]; omega
      · cases hs1
    · have hkn : k = sts.length := by omega
      have HX : Hid (Agree ws bs) := Lib.hid (by
        have := HK.out
        rw [hkn, List.take_length, HR.out] at this
        cases this; exact HA.out)
      go_wp2_with fail
      go_ret
      exact ⟨_, _, rfl, HO.out, HX.out, HS.out, HB.out⟩
end Go.Proofs.YtckdcceglmlinaaDoor
