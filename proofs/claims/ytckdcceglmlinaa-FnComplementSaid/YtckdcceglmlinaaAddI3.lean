/- addInterval on any set, and what calls it: addOne, addRange and their doors. Condition: the bound on the number of ranges. -/
import Derived.Test.YtckdcceglmlinaaAddI2
namespace Go.Proofs.Ytckdcceglmlinaa
open Go.RowKit
set_option linter.unusedSimpArgs false

theorem addInterval_any (base g : Nat) (r : Option Nat) (L : List Rg) (a b : Int) (w : World) (h : SetAt w base g r L) (hm : L.length ≤ 100) :
    Calls Try.prog 55 #[.pointer (some ⟨g, 0, none⟩), .agg #[.int .i64 a, .int .i64 b]] w (SetPost base g r (addI a b L) w) := by
  obtain ⟨A, c, hblk, hown, hr, hbg⟩ := h
  rcases hown.2 with ⟨hv, hn⟩ | ⟨rb, cap, cur, hv, _⟩
  · have hL : L = [] := List.eq_nil_of_length_eq_zero hn
    subst hL
    injection hv with h1 h2 h3
    subst h1
    subst h3
    cases hr
    exact addInterval_nil base g a b w hblk hbg
  · injection hv with h1 h2 h3
    subst h1
    subst h3
    cases hr
    exact addInterval_row base g rb _ L a b w hblk hown hbg hm

theorem SetAt.ext {w w' : World} {base g : Nat} {r : Option Nat} {L : List Rg} (h : SetAt w base g r L) (hb : Below w.heap.size w w') : SetAt w' base g r L := by
  obtain ⟨A, c, h1, h2, h3, h4⟩ := h
  exact ⟨A, c, h1.below hb h1.lt, ownsRow_ext h2 hb, h3, h4⟩
theorem addOne_any (base g : Nat) (r : Option Nat) (L : List Rg) (a : Int) (w : World) (h : SetAt w base g r L) (hm : L.length ≤ 100) (ha : 0 ≤ a ∧ a ≤ 100) :
    Calls Try.prog 49 #[.pointer (some ⟨g, 0, none⟩), .int .i64 a] w (SetPost base g r (addI a (a + 1) L) w) := by
  have H := Lib.hid h
  clear h
  go_enter Try.func49, Try.ntmps49
  go_wp2_with fail
  refine (NewInterval_any a (a + 1) w).mono ?_
  rintro e w1 ⟨rfl, hb⟩
  have H1 := Lib.hid (H.out.ext hb)
  have HB := Lib.hid hb
  clear hb
  go_wp2_with fail
  refine (addInterval_any base g r L a (a + 1) w1 H1.out hm).mono ?_
  rintro e w2 ⟨r', rfl, hs, hk⟩
  have HS := Lib.hid hs
  have HK := Lib.hid ((KeepS.of_below HB.out g r).trans hk)
  clear hs hk
  go_wp2_with fail
  go_end0
  exact ⟨r', rfl, HS.out, HK.out⟩
theorem addRange_any (base g : Nat) (r : Option Nat) (L : List Rg) (a b : Int) (w : World) (h : SetAt w base g r L) (hm : L.length ≤ 100) (hb0 : 0 ≤ b ∧ b ≤ 100) :
    Calls Try.prog 50 #[.pointer (some ⟨g, 0, none⟩), .int .i64 a, .int .i64 b] w (SetPost base g r (addI a (b + 1) L) w) := by
  have H := Lib.hid h
  clear h
  go_enter Try.func50, Try.ntmps50
  go_wp2_with fail
  refine (NewInterval_any a (b + 1) w).mono ?_
  rintro e w1 ⟨rfl, hb⟩
  have H1 := Lib.hid (H.out.ext hb)
  have HB := Lib.hid hb
  clear hb
  go_wp2_with fail
  refine (addInterval_any base g r L a (b + 1) w1 H1.out hm).mono ?_
  rintro e w2 ⟨r', rfl, hs, hk⟩
  have HS := Lib.hid hs
  have HK := Lib.hid ((KeepS.of_below HB.out g r).trans hk)
  clear hs hk
  go_wp2_with fail
  go_end0
  exact ⟨r', rfl, HS.out, HK.out⟩
theorem zzAddOne_any (base g : Nat) (r : Option Nat) (L : List Rg) (a : Int) (w : World) (h : SetAt w base g r L) (hm : L.length ≤ 100) (ha : 0 ≤ a ∧ a ≤ 100) :
    Calls Try.prog 37 #[.pointer (some ⟨g, 0, none⟩), .int .i64 a] w (SetPost base g r (addI a (a + 1) L) w) := by
  have H := Lib.hid h
  clear h
  go_enter Try.func37, Try.ntmps37
  go_wp2_with fail
  refine (addOne_any base g r L a w H.out hm ha).mono ?_
  rintro e w2 ⟨r', rfl, hs, hk⟩
  have HS := Lib.hid hs
  have HK := Lib.hid hk
  clear hs hk
  go_wp2_with fail
  go_end0
  exact ⟨r', rfl, HS.out, HK.out⟩
theorem zzAddRange_any (base g : Nat) (r : Option Nat) (L : List Rg) (a b : Int) (w : World) (h : SetAt w base g r L) (hm : L.length ≤ 100) (hb0 : 0 ≤ b ∧ b ≤ 100) :
    Calls Try.prog 38 #[.pointer (some ⟨g, 0, none⟩), .int .i64 a, .int .i64 b] w (SetPost base g r (addI a (b + 1) L) w) := by
  have H := Lib.hid h
  clear h
  go_enter Try.func38, Try.ntmps38
  go_wp2_with fail
  refine (addRange_any base g r L a b w H.out hm hb0).mono ?_
  rintro e w2 ⟨r', rfl, hs, hk⟩
  have HS := Lib.hid hs
  have HK := Lib.hid hk
  clear hs hk
  go_wp2_with fail
  go_end0
  exact ⟨r', rfl, HS.out, HK.out⟩
end Go.Proofs.Ytckdcceglmlinaa
