/- The functions of the thin package that tell of a set made by steps. Condition: the steps are such that the reference says something. -/
import Derived.Test.YtckdcceglmlinaaMade
namespace Go.Proofs.Ytckdcceglmlinaa
open Go.RowKit
set_option linter.unusedSimpArgs false

/-- steps that came in, of which the reference says something -/
def StIn (w : World) (A : Option Addr) (sts : List St) : Prop := Reads w w.heap.size 3 A sts.length (flat3 sts) ∧ sts.length ≤ 2147483647
theorem StIn.ext {w w' : World} {A : Option Addr} {sts : List St} (h : StIn w A sts) (hb : Below w.heap.size w w') : StIn w' A sts := ⟨h.1.ext hb, h.2⟩
theorem made_any (A : Option Addr) (c : Nat) (sts : List St) (bs : List Bool) (w : World) (h : StIn w A sts) (hr : refB zeros sts = some bs) : Calls Try.prog 25 #[.slice A sts.length c] w (MadeSet (rangesF bs) w) :=
  implBuild_any A c sts bs w h.1 h.2 hr
theorem refB_len {z b : List Bool} {l : List St} (hz : z.length = 62) (h : refB z l = some b) : b.length = 62 := by
  induction l generalizing z with
  | nil => cases h; exact hz
  | cons a r ih =>
    simp only [refB] at h
    cases hs : refS z a with
    | none => rw [hs] at h; cases h
    | some z' => rw [hs] at h; exact ih (refS_cases hz hs).1 h
theorem zeros_len : zeros.length = 62 := by simp [zeros]

theorem implContains_any (A : Option Addr) (c : Nat) (sts : List St) (bs : List Bool) (n : Int) (w : World) (h : StIn w A sts) (hr : refB zeros sts = some bs) :
    Calls Try.prog 13 #[.slice A sts.length c, .int .i64 n] w (BelPost (.bool (memS (rangesF bs) n)) w) := by
  have hsm := ranges_sm (refB_len zeros_len hr)
  have H := Lib.hid h
  have HR := Lib.hid hr
  have HS := Lib.hid hsm
  clear h hr hsm
  go_enter Try.func13, Try.ntmps13
  go_wp2_with fail
  refine (made_any A c sts bs w H.out HR.out).mono ?_
  rintro e w1 ⟨g, r, rfl, hs, hb⟩
  have HS1 := Lib.hid hs
  have HB := Lib.hid hb
  clear hs hb
  go_wp2_with fail
  refine (zzContains_any g (rangesF bs) n w1 HS1.out.read HS.out).mono ?_
  rintro e w2 ⟨rfl, hb2⟩
  have HB2 := Lib.hid (below_trans HB.out hb2)
  clear hb2
  go_wp2_with fail
  go_ret
  exact ⟨rfl, HB2.out⟩
theorem implLength_any (A : Option Addr) (c : Nat) (sts : List St) (bs : List Bool) (w : World) (h : StIn w A sts) (hr : refB zeros sts = some bs) :
    Calls Try.prog 14 #[.slice A sts.length c] w (BelPost (.int .i64 (lenS (rangesF bs))) w) := by
  have hsm := ranges_sm (refB_len zeros_len hr)
  have H := Lib.hid h
  have HR := Lib.hid hr
  have HS := Lib.hid hsm
  clear h hr hsm
  go_enter Try.func14, Try.ntmps14
  go_wp2_with fail
  refine (made_any A c sts bs w H.out HR.out).mono ?_
  rintro e w1 ⟨g, r, rfl, hs, hb⟩
  have HS1 := Lib.hid hs
  have HB := Lib.hid hb
  clear hs hb
  go_wp2_with fail
  refine (zzLength_any g (rangesF bs) w1 HS1.out.read HS.out).mono ?_
  rintro e w2 ⟨rfl, hb2⟩
  have HB2 := Lib.hid (below_trans HB.out hb2)
  clear hb2
  go_wp2_with fail
  go_ret
  exact ⟨rfl, HB2.out⟩
theorem implFirst_any (A : Option Addr) (c : Nat) (sts : List St) (bs : List Bool) (w : World) (h : StIn w A sts) (hr : refB zeros sts = some bs) :
    Calls Try.prog 16 #[.slice A sts.length c] w (BelPost (.int .i64 (firstS (rangesF bs))) w) := by
  have hsm := ranges_sm (refB_len zeros_len hr)
  have H := Lib.hid h
  have HR := Lib.hid hr
  have HS := Lib.hid hsm
  clear h hr hsm
  go_enter Try.func16, Try.ntmps16
  go_wp2_with fail
  refine (made_any A c sts bs w H.out HR.out).mono ?_
  rintro e w1 ⟨g, r, rfl, hs, hb⟩
  have HS1 := Lib.hid hs
  have HB := Lib.hid hb
  clear hs hb
  go_wp2_with fail
  refine (zzFirst_any g (rangesF bs) w1 HS1.out.read HS.out).mono ?_
  rintro e w2 ⟨rfl, hb2⟩
  have HB2 := Lib.hid (below_trans HB.out hb2)
  clear hb2
  go_wp2_with fail
  go_ret
  exact ⟨rfl, HB2.out⟩
theorem implSame_any (A A' : Option Addr) (c c' : Nat) (sts sts' : List St) (bs bs' : List Bool) (w : World) (h : StIn w A sts) (hr : refB zeros sts = some bs) (h' : StIn w A' sts') (hr' : refB zeros sts' = some bs') :
    Calls Try.prog 11 #[.slice A sts.length c, .slice A' sts'.length c'] w (BelPost (.bool (eqS (rangesF bs) (rangesF bs'))) w) := by
  have hsm := ranges_sm (refB_len zeros_len hr')
  have H := Lib.hid h
  have HR := Lib.hid hr
  have H' := Lib.hid h'
  have HR' := Lib.hid hr'
  have HS := Lib.hid hsm
  clear h hr hsm h' hr'
  go_enter Try.func11, Try.ntmps11
  go_wp2_with fail
  refine (made_any A c sts bs w H.out HR.out).mono ?_
  rintro e w1 ⟨g, r, rfl, hs, hb⟩
  have HS1 := Lib.hid hs.read
  have HB := Lib.hid hb
  clear hs hb
  go_wp2_with fail
  refine (made_any A' c' sts' bs' w1 (H'.out.ext HB.out) HR'.out).mono ?_
  rintro e w2 ⟨g', r', rfl, hs, hb⟩
  have HS2 := Lib.hid hs.read
  have HS1' := Lib.hid (HS1.out.below hb)
  have HB2 := Lib.hid (below_trans HB.out hb)
  clear hs hb
  go_wp2_with fail
  refine (equals_any g g' (rangesF bs) (rangesF bs') w2 HS1'.out HS2.out HS.out.1).mono ?_
  rintro e w3 ⟨rfl, hb3⟩
  have HB3 := Lib.hid (below_trans HB2.out hb3)
  clear hb3
  go_wp2_with fail
  go_ret
  exact ⟨rfl, HB3.out⟩

/-- ranges that are handed on -/
def ReadPost (L : List Rg) (w : World) (e : Ending) (w' : World) : Prop := ∃ A c, e = .returned (.slice A L.length c) ∧ Reads w' w'.heap.size 2 A L.length (flat L) ∧ Below w.heap.size w w'
theorem implSet_any (A : Option Addr) (c : Nat) (sts : List St) (bs : List Bool) (w : World) (h : StIn w A sts) (hr : refB zeros sts = some bs) :
    Calls Try.prog 20 #[.slice A sts.length c] w (ReadPost (rangesF bs) w) := by
  have hsm := ranges_sm (refB_len zeros_len hr)
  have H := Lib.hid h
  have HR := Lib.hid hr
  have HS := Lib.hid hsm
  clear h hr hsm
  go_enter Try.func20, Try.ntmps20
  go_wp2_with fail
  refine (made_any A c sts bs w H.out HR.out).mono ?_
  rintro e w1 ⟨g, r, rfl, hs, hb⟩
  have HS1 := Lib.hid hs
  have HB := Lib.hid hb
  clear hs hb
  go_wp2_with fail
  refine (implRanges_any g (rangesF bs) w1 HS1.out.read HS.out.1).mono ?_
  rintro e w2 ⟨A2, c2, rfl, hown, hb2⟩
  have HO2 := Lib.hid (Reads.of_own hown)
  have HB2 := Lib.hid (below_trans HB.out hb2)
  clear hb2 hown
  go_wp2_with fail
  go_ret
  exact ⟨_, _, rfl, HO2.out, HB2.out⟩
/-- the reference's outcome, as the laws take it -/
theorem spec_any (A : Option Addr) (c : Nat) (sts : List St) (w : World) (h : StIn w A sts) :
    Calls Try.prog 9 #[.slice A sts.length c] w (fun e w' => ∃ A c bs ok, e = .returned (.tuple #[.slice A (rangesF bs).length c, .bool ok]) ∧ Sm (rangesF bs) ∧ (ok = true → refB zeros sts = some bs) ∧ Reads w' w'.heap.size 2 A (rangesF bs).length (flat (rangesF bs)) ∧ Below w.heap.size w w') := by
  refine (specBuild_any A c sts w h.1 h.2).mono ?_
  rintro e w' ⟨A', c', bs, ok, rfl, hl, hown, hok, hb⟩
  exact ⟨A', c', bs, ok, rfl, ranges_sm hl, fun h => (hok h).1, Reads.of_own hown, hb⟩
theorem stepsIn_any (A : Option Addr) (c : Nat) (sts : List St) (w : World) (h : StIn w A sts) :
    Calls Try.prog 10 #[.slice A sts.length c] w (fun e w' => ∃ A' c', e = .returned (.slice A' sts.length c') ∧ StIn w' A' sts ∧ Below w.heap.size w w') := by
  refine (steps_any A c sts w h.1 h.2).mono ?_
  rintro e w' ⟨A', c', rfl, hown, hb⟩
  exact ⟨A', c', rfl, ⟨Reads.of_own hown, h.2⟩, hb⟩
end Go.Proofs.Ytckdcceglmlinaa
