/- removeOne and removeRange on any set, the doors of the package, and the making of a set by steps. Condition: the steps are such that the reference says something. -/
import Derived.Test.YtckdcceglmlinaaRem2
import Derived.Test.YtckdcceglmlinaaSteps
namespace Go.Proofs.Ytckdcceglmlinaa
open Go.RowKit
set_option linter.unusedSimpArgs false

theorem SetAt.cases {w : World} {base g : Nat} {r : Option Nat} {L : List Rg} (h : SetAt w base g r L) :
    (L = [] ∧ r = none ∧ Blk w g 72 #[.slice none 0 0, .bool false] ∧ base ≤ g) ∨
    ∃ rb c, r = some rb ∧ Blk w g 72 #[.slice (some ⟨rb, 0, none⟩) L.length c, .bool false] ∧ w.ownsRow base 68 2 (.slice (some ⟨rb, 0, none⟩) L.length c) L.length (flat L) ∧ base ≤ g := by
  obtain ⟨A, c, hblk, hown, hr, hbg⟩ := h
  rcases hown.2 with ⟨hv, hn⟩ | ⟨rb, cap, cur, hv, _⟩
  · have hL : L = [] := List.eq_nil_of_length_eq_zero hn
    subst hL
    injection hv with h1 h2 h3
    subst h1
    subst h3
    cases hr
    exact .inl ⟨rfl, rfl, hblk, hbg⟩
  · injection hv with h1 h2 h3
    subst h1
    subst h3
    cases hr
    exact .inr ⟨rb, _, rfl, hblk, hown, hbg⟩
theorem setAt_nil {w : World} {base g : Nat} (h : Blk w g 72 #[.slice none 0 0, .bool false]) (hbg : base ≤ g) : SetAt w base g none [] :=
  ⟨none, 0, h, World.ownsRow_nil _ _ _ _, rfl, hbg⟩
theorem removeOne_nil (base g : Nat) (v : Int) (w : World) (hblk : Blk w g 72 #[.slice none 0 0, .bool false]) (hbg : base ≤ g) :
    Calls Try.prog 51 #[.pointer (some ⟨g, 0, none⟩), .int .i64 v] w (SetPost base g none [] w) := by
  have c0 : w.cell? ⟨g, 0, none⟩ = some (.slice none 0 0) := hblk.cell 0
  have HK := Lib.hid hblk
  clear hblk
  have q1 := neqNil70
  go_enter Try.func51, Try.ntmps51
  go_wp2_with fail
  go_end0
  exact ⟨none, rfl, setAt_nil HK.out hbg, KeepS.refl _ _ _⟩
theorem removeOne_any (base g : Nat) (r : Option Nat) (L : List Rg) (v : Int) (w : World) (h : SetAt w base g r L) (hs : Sm L) (hns : NoSplit v L) :
    Calls Try.prog 51 #[.pointer (some ⟨g, 0, none⟩), .int .i64 v] w (SetPost base g r (rmOne v L) w) := by
  rcases h.cases with ⟨rfl, rfl, hblk, hbg⟩ | ⟨rb, c, rfl, hblk, hown, hbg⟩
  · exact removeOne_nil base g v w hblk hbg
  · exact removeOne_row base g rb c L v w hblk hown hbg hs hns

theorem removeRange_nil (base g : Nat) (a b : Int) (w : World) (hblk : Blk w g 72 #[.slice none 0 0, .bool false]) (hbg : base ≤ g) (hab : 0 ≤ a ∧ a + 1 < b ∧ b ≤ 100) :
    Calls Try.prog 52 #[.pointer (some ⟨g, 0, none⟩), .agg #[.int .i64 a, .int .i64 b]] w (SetPost base g none [] w) := by
  have c0 : w.cell? ⟨g, 0, none⟩ = some (.slice none 0 0) := hblk.cell 0
  have hgl := hblk.lt
  have HK := Lib.hid hblk
  have hne : (a == b - 1) = false := by rw [beq_eq_false_iff_ne]; omega
  clear hblk
  have q1 := neqNil70
  go_enter Try.func52, Try.ntmps52
  go_wp2_with fail
  go_end0
  have hB := (Below.refl w.heap.size w).alloc (Nat.le_refl _) (Obj.cells #[Value.int IntKind.i64 a, Value.int IntKind.i64 b] 68)
  exact ⟨none, rfl, setAt_nil (HK.out.below hB hgl) hbg, KeepS.of_below hB g none⟩
theorem removeRange_one (base g : Nat) (r : Option Nat) (L : List Rg) (a : Int) (w : World) (h : SetAt w base g r L) (hs : Sm L) (hns : NoSplit a L) (ha : 0 ≤ a ∧ a ≤ 100) :
    Calls Try.prog 52 #[.pointer (some ⟨g, 0, none⟩), .agg #[.int .i64 a, .int .i64 (a + 1)]] w (SetPost base g r (rmOne a L) w) := by
  have H := Lib.hid h
  have HS := Lib.hid hs
  have HN := Lib.hid hns
  clear h hs hns
  go_enter Try.func52, Try.ntmps52
  go_wp2_with fail
  have hB := (Below.refl w.heap.size w).alloc (Nat.le_refl _) (Obj.cells #[Value.int IntKind.i64 a, Value.int IntKind.i64 (a + 1)] 68)
  have HB := Lib.hid hB
  clear hB
  refine (removeOne_any base g r L a _ (H.out.ext HB.out) HS.out HN.out).mono ?_
  rintro e w2 ⟨r', rfl, hs, hk⟩
  have HS2 := Lib.hid hs
  have HK2 := Lib.hid ((KeepS.of_below HB.out g r).trans hk)
  clear hs hk
  go_wp2_with fail
  go_end0
  exact ⟨r', rfl, HS2.out, HK2.out⟩

/-- What is asked of a step that takes away. -/
def MayTake (a b : Int) (L : List Rg) : Prop := 0 ≤ a ∧ b ≤ 61 ∧ ((b = a + 1 ∧ NoSplit a L) ∨ (a + 1 < b ∧ Whole a b L ∧ Far a b L))
def rmR (a b : Int) (L : List Rg) : List Rg := if b - a = 1 then rmOne a L else rmRange a b L
theorem removeRange_any (base g : Nat) (r : Option Nat) (L : List Rg) (a b : Int) (w : World) (h : SetAt w base g r L) (hs : Sm L) (hlr : ∀ r ∈ L, r.1 < r.2) (hm : MayTake a b L) :
    Calls Try.prog 52 #[.pointer (some ⟨g, 0, none⟩), .agg #[.int .i64 a, .int .i64 b]] w (SetPost base g r (rmR a b L) w) := by
  obtain ⟨ha, hb, ⟨rfl, hns⟩ | ⟨hab, hw, hf⟩⟩ := hm
  · unfold rmR; rw [if_pos (by omega)]
    exact removeRange_one base g r L a w h hs hns (by omega)
  · unfold rmR; rw [if_neg (by omega)]
    rcases h.cases with ⟨rfl, rfl, hblk, hbg⟩ | ⟨rb, c, rfl, hblk, hown, hbg⟩
    · exact removeRange_nil base g a b w hblk hbg (by omega)
    · exact removeRange_row base g rb c L a b w hblk hown hbg hs (by omega) hw hf hlr

theorem norm_lt {lo : Int} {L : List Rg} (h : Norm lo L) : ∀ r ∈ L, r.1 < r.2 := by
  induction L generalizing lo with
  | nil => intro r hr; cases hr
  | cons r t ih =>
    obtain ⟨s, e⟩ := r
    intro x hx
    rcases List.mem_cons.1 hx with rfl | hx
    · exact h.2.1
    · exact ih h.2.2 x hx
theorem norm_far {lo a b : Int} {L : List Rg} (h : Norm lo L) (ht : touchedL a b false L ≤ 1) : Far a b L := by
  induction L generalizing lo with
  | nil => intro k p q r h1; simp at h1
  | cons x t ih =>
    obtain ⟨s, e⟩ := x
    obtain ⟨h1, h2, h3⟩ := h
    intro k p q r hk hp hq hr
    cases k with
    | zero =>
      simp only [List.getElem?_cons_zero, Option.some.injEq, Prod.mk.injEq] at hk
      obtain ⟨rfl, rfl⟩ := hk
      have hn := touchedL_hd (n := 0) ht ((tch_false a b s e).2 (by omega))
      cases t with
      | nil => simp at hr
      | cons r2 t2 =>
        simp at hr
        subst hr
        obtain ⟨s2, e2⟩ := r2
        have h4 := touchedL_no hn
        have h5 : ¬ _ := fun h => by rw [(tch_false a b s2 e2).2 h] at h4; cases h4
        have := h3.1; have := h3.2.1
        simp only
        omega
    | succ k => exact ih h3 (touchedL_tl ht) k p q r (by simpa using hk) hp hq (by simpa using hr)
theorem mayTake_of {bs : List Bool} {a b : Int} (h : takeOk bs a b (b - a == 1) = true) : MayTake a b (rangesF bs) := by
  obtain ⟨h1, h2, h3, h4, _⟩ := takeOk_spec h
  refine ⟨h1, h2, ?_⟩
  by_cases h5 : b = a + 1
  · subst h5
    rw [show (a + 1 - a == 1) = true by simp; omega] at h
    exact .inl ⟨rfl, noSplit_of h⟩
  · rw [show (b - a == 1) = false by simp; omega] at h
    exact .inr ⟨by omega, whole_of h, norm_far (rangesF_norm bs).1 h4⟩
theorem rmR_of {bs : List Bool} {a b : Int} (hl : bs.length = 62) (h : takeOk bs a b (b - a == 1) = true) : rangesF (takeF bs a b (b - a == 1)) = rmR a b (rangesF bs) := by
  unfold rmR
  by_cases h5 : b - a = 1
  · have e1 : (b - a == 1) = true := by simpa using h5
    have e2 : b = a + 1 := by omega
    rw [if_pos h5]
    rw [e1, e2] at h ⊢
    exact ranges_one hl h
  · have e1 : (b - a == 1) = false := by simpa using h5
    rw [if_neg h5]
    rw [e1] at h ⊢
    exact ranges_rm hl h

theorem zzRemoveOne_any (base g : Nat) (r : Option Nat) (L : List Rg) (v : Int) (w : World) (h : SetAt w base g r L) (hs : Sm L) (hns : NoSplit v L) :
    Calls Try.prog 39 #[.pointer (some ⟨g, 0, none⟩), .int .i64 v] w (SetPost base g r (rmOne v L) w) := by
  have H := Lib.hid h
  have HS := Lib.hid hs
  have HN := Lib.hid hns
  clear h hs hns
  go_enter Try.func39, Try.ntmps39
  go_wp2_with fail
  refine (removeOne_any base g r L v w H.out HS.out HN.out).mono ?_
  rintro e w2 ⟨r', rfl, hs, hk⟩
  have HS := Lib.hid hs
  have HK := Lib.hid hk
  clear hs hk
  go_wp2_with fail
  go_end0
  exact ⟨r', rfl, HS.out, HK.out⟩
theorem zzRemoveRange_any (base g : Nat) (r : Option Nat) (L : List Rg) (a b : Int) (w : World) (h : SetAt w base g r L) (hs : Sm L) (hlr : ∀ r ∈ L, r.1 < r.2) (hm : MayTake a b L) :
    Calls Try.prog 40 #[.pointer (some ⟨g, 0, none⟩), .agg #[.int .i64 a, .int .i64 b]] w (SetPost base g r (rmR a b L) w) := by
  have H := Lib.hid h
  have HS := Lib.hid hs
  have HN := Lib.hid hlr
  have HM := Lib.hid hm
  clear h hs hlr hm
  go_enter Try.func40, Try.ntmps40
  go_wp2_with fail
  have hB := (Below.refl w.heap.size w).alloc (Nat.le_refl _) (Obj.cells #[Value.int IntKind.i64 a, Value.int IntKind.i64 b] 68)
  have HB := Lib.hid hB
  clear hB
  refine (removeRange_any base g r L a b _ (H.out.ext HB.out) HS.out HN.out HM.out).mono ?_
  rintro e w2 ⟨r', rfl, hs, hk⟩
  have HS2 := Lib.hid hs
  have HK2 := Lib.hid ((KeepS.of_below HB.out g r).trans hk)
  clear hs hk
  go_wp2_with fail
  go_end0
  exact ⟨r', rfl, HS2.out, HK2.out⟩

theorem zzContains_any (g : Nat) (L : List Rg) (n : Int) (w : World) (h : SetR w g L) (hs : Sm L) : Calls Try.prog 27 #[.pointer (some ⟨g, 0, none⟩), .int .i64 n] w (BelPost (.bool (memS L n)) w) := by
  have H := Lib.hid h
  have HS := Lib.hid hs
  clear h hs
  go_enter Try.func27, Try.ntmps27
  go_wp2_with fail
  refine (contains_any g L n w H.out HS.out).mono ?_
  rintro e w2 ⟨rfl, hb⟩
  have HB := Lib.hid hb
  clear hb
  go_wp2_with fail
  go_ret
  exact ⟨rfl, HB.out⟩
theorem zzLength_any (g : Nat) (L : List Rg) (w : World) (h : SetR w g L) (hs : Sm L) : Calls Try.prog 28 #[.pointer (some ⟨g, 0, none⟩)] w (BelPost (.int .i64 (lenS L)) w) := by
  have H := Lib.hid h
  have HS := Lib.hid hs
  clear h hs
  go_enter Try.func28, Try.ntmps28
  go_wp2_with fail
  refine (length_any g L w H.out HS.out).mono ?_
  rintro e w2 ⟨rfl, hb⟩
  have HB := Lib.hid hb
  clear hb
  go_wp2_with fail
  go_ret
  exact ⟨rfl, HB.out⟩
theorem zzFirst_any (g : Nat) (L : List Rg) (w : World) (h : SetR w g L) (hs : Sm L) : Calls Try.prog 29 #[.pointer (some ⟨g, 0, none⟩)] w (BelPost (.int .i64 (firstS L)) w) := by
  have H := Lib.hid h
  have HS := Lib.hid hs
  clear h hs
  go_enter Try.func29, Try.ntmps29
  go_wp2_with fail
  refine (first_any g L w H.out HS.out).mono ?_
  rintro e w2 ⟨rfl, rfl⟩
  go_wp2_with fail
  go_ret
  exact ⟨rfl, Below.refl _ _⟩
end Go.Proofs.Ytckdcceglmlinaa
