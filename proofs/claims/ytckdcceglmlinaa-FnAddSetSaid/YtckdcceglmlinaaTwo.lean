/- The reference's Adds and Beside. Condition: the bound on the lengths. -/
import Derived.Test.YtckdcceglmlinaaImpl
namespace Go.Proofs.Ytckdcceglmlinaa
open Go.RowKit
set_option linter.unusedSimpArgs false

/-- ranges added one by one -/
def addsF (bs : List Bool) : List Rg → Option (List Bool)
  | [] => some bs
  | r :: t => if addOk bs r.1 r.2 then addsF (addF bs r.1 r.2) t else none
theorem addsF_snoc {bs bk : List Bool} {l : List Rg} (h : addsF bs l = some bk) (r : Rg) : addsF bs (l ++ [r]) = if addOk bk r.1 r.2 then some (addF bk r.1 r.2) else none := by
  induction l generalizing bs with
  | nil => simp only [addsF, Option.some.injEq] at h; subst h; simp [addsF]
  | cons a t ih =>
    simp only [List.cons_append, addsF] at h ⊢
    split at h
    · rename_i h1; rw [if_pos h1]; exact ih h
    · cases h
/-- ranges taken one by one -/
def takesF (bs : List Bool) : List Rg → Option (List Bool)
  | [] => some bs
  | r :: t => if takeOk bs r.1 r.2 (r.2 - r.1 == 1) then takesF (takeF bs r.1 r.2 (r.2 - r.1 == 1)) t else none
theorem takesF_snoc {bs bk : List Bool} {l : List Rg} (h : takesF bs l = some bk) (r : Rg) : takesF bs (l ++ [r]) = if takeOk bk r.1 r.2 (r.2 - r.1 == 1) then some (takeF bk r.1 r.2 (r.2 - r.1 == 1)) else none := by
  induction l generalizing bs with
  | nil => simp only [takesF, Option.some.injEq] at h; subst h; simp [takesF]
  | cons a t ih =>
    simp only [List.cons_append, takesF] at h ⊢
    split at h
    · rename_i h1; rw [if_pos h1]; exact ih h
    · cases h

/-- What Adds leaves. -/
def AddsPost (sts sts' : List St) (w : World) (e : Ending) (w' : World) : Prop := ∃ v ok, e = .returned (.tuple #[v, .bool ok]) ∧ Below w.heap.size w w' ∧
  (∃ A n c, v = .slice A n c) ∧
  (ok = true → ∃ A c bs bt bu, v = .slice A (rangesF bu).length c ∧ refB zeros sts = some bs ∧ refB zeros sts' = some bt ∧ addsF bs (rangesF bt) = some bu ∧ Reads w' w'.heap.size 2 A (rangesF bu).length (flat (rangesF bu)))
theorem adds_no {sts sts' : List St} {w w' : World} (hb : Below w.heap.size w w') (A : Option Addr) (n c : Nat) : AddsPost sts sts' w (.returned (.tuple #[.slice A n c, .bool false])) w' :=
  ⟨_, _, rfl, hb, ⟨_, _, _, rfl⟩, fun h => by cases h⟩

set_option maxHeartbeats 4000000 in
theorem adds_any (A A' : Option Addr) (c c' : Nat) (sts sts' : List St) (w : World) (h : StIn w A sts) (h' : StIn w A' sts') :
    Calls Try.prog 21 #[.slice A sts.length c, .slice A' sts'.length c'] w (AddsPost sts sts' w) := by
  have H := Lib.hid h
  have H' := Lib.hid h'
  clear h h'
  go_enter Try.func21, Try.ntmps21
  go_wp2_with fail
  refine (build_any A c sts w H.out.1 H.out.2).mono ?_
  rintro e w1 ⟨g1, cap1, bs, ok1, rfl, hl1, hown1, hok1, hb1⟩
  have HO1 := Lib.hid hown1
  have HOK1 := Lib.hid hok1
  have HB1 := Lib.hid hb1
  have HL1 := Lib.hid hl1
  have hg1 := hown1.lt g1 rfl
  clear hown1 hok1 hb1 hl1
  go_wp2_with fail
  refine (build_any A' c' sts' w1 (H'.out.1.ext HB1.out) H'.out.2).mono ?_
  rintro e w2 ⟨g2, cap2, bt, ok2, rfl, hl2, hown2, hok2, hb2⟩
  have HO2 := Lib.hid (Reads.of_own hown2)
  have HOK2 := Lib.hid hok2
  have HB2 := Lib.hid (below_trans HB1.out hb2)
  have HO12 := Lib.hid (ownsRow_ext HO1.out hb2)
  have hsz2 := hb2.size
  clear hown2 hok2 hb2
  go_wp2_with fail
  have hra := ranges_any (some ⟨g2, 0, none⟩) cap2 bt w2 (by rw [hl2]; exact HO2.out) (by omega)
  rw [hl2] at hra
  refine hra.mono ?_
  clear hra
  rintro e w3 ⟨A3, c3, rfl, hown3, hb3⟩
  have HO3 := Lib.hid hown3
  have HB3 := Lib.hid (below_trans HB2.out hb3)
  have HO13 := Lib.hid (ownsRow_ext HO12.out hb3)
  have hrl : (rangesF bt).length ≤ 100 := Nat.le_trans (rg_len bt bt.length) (by omega)
  clear hown3 hb3
  generalize hM : rangesF bt = M at *
  have HM := Lib.hid hM
  clear hM hl2
  go_wp2_with fail
  go_loopw [25] (fun i wr => ∃ (k : Nat) (bk : List Bool), k ≤ M.length ∧ i = .int .i64 k ∧ Hid (bk.length = 62) ∧ Hid (wr.ownsRow w.heap.size 4 1 (.slice (some ⟨g1, 0, none⟩) 62 cap1) 62 (bls bk)) ∧ Hid (addsF bs (M.take k) = some bk) ∧ Hid (Below w.heap.size w wr) ∧
    Hid (wr.ownsRow w2.heap.size 31 2 (.slice A3 M.length c3) M.length (flat M))) (fun i _ => M.length - (intOf i).toNat)
  case atStart => exact ⟨0, bs, Nat.zero_le _, rfl, HL1, HO13, Lib.hid rfl, HB3, HO3⟩
  case round =>
    obtain ⟨k, bk, hk, rfl, HLk, HOk, HADD, HBk, HMk⟩ := hrel
    by_cases hlt : k < M.length
    · have hkr := List.getElem?_eq_getElem hlt
      generalize M[k] = x at *
      obtain ⟨b, off, hA, _, ca, cb⟩ := (Reads.of_own HMk.out).rg hkr
      cases hA
      have HSN := Lib.hid (show addsF bs (M.take (k + 1)) = if addOk bk x.1 x.2 then some (addF bk x.1 x.2) else none by rw [take_snoc' _ _ _ hkr]; exact addsF_snoc HADD.out x)
      obtain ⟨p, q⟩ := x
      simp only at ca cb
      clear hkr
      go_wp2_with fail
      obtain ⟨W0, hW0⟩ : ∃ W0, W0 = wr.alloc (Obj.cells #[Value.int IntKind.i64 p, Value.int IntKind.i64 q] 31) := ⟨_, rfl⟩
      have hbW : Below wr.heap.size wr W0 := by rw [hW0]; exact below_alloc' (Below.refl _ _) _
      rw [← hW0]
      clear hW0
      have HBW := Lib.hid (below_trans' HBk.out HBk.out.size hbW)
      have HOW := Lib.hid (ownsRow_ext HOk.out hbW)
      have HMW := Lib.hid (ownsRow_ext HMk.out hbW)
      clear hbW
      refine (add_any w.heap.size g1 cap1 bk HLk.out p q W0 HOW.out).mono ?_
      rintro e w5 ⟨rfl, hown5, hgr5⟩
      have HO5 := Lib.hid hown5
      have HB5 := Lib.hid (below_own (n := w.heap.size) HBW.out hgr5 hg1.1 rfl)
      have HM5 := Lib.hid (HMW.out.kept hgr5 (.inr (fun e => by have := (HMW.out.lt g1 e).1; omega)))
      clear hown5 hgr5
      cases hok : addOk bk p q
      · clear hok
        go_wp2_with fail
        go_ret2
        exact adds_no HB5.out _ _ _
      · have HN := Lib.hid (show addsF bs (M.take (k + 1)) = some (addF bk p q) by rw [HSN.out, hok]; rfl)
        clear hok
        go_wp2_with fail
        go_roundw
        case rel => exact ⟨k + 1, _, by omega, by go_num, Lib.hid ((addF_length _ _ _).trans HLk.out), HO5, HN, HB5, HM5⟩
        case measure => simp [intOf]; omega
    · have hkn : k = M.length := by omega
      have HN := Lib.hid (show addsF bs M = some bk by have := HADD.out; rwa [hkn, List.take_length] at this)
      clear hkn
      go_wp2_with fail
      have hlk := HLk.out
      have hrb := ranges_any (some ⟨g1, 0, none⟩) cap1 bk wr (by rw [hlk]; exact Reads.of_own HOk.out) (by omega)
      rw [hlk] at hrb
      clear hlk
      refine hrb.mono ?_
      clear hrb
      rintro e w6 ⟨A6, c6, rfl, hown6, hb6⟩
      have HO6 := Lib.hid (Reads.of_own hown6)
      have HB6 := Lib.hid (below_trans HBk.out hb6)
      clear hown6 hb6
      cases ok1
      · go_wp2_with fail
        go_ret2
        exact adds_no HB6.out _ _ _
      · cases ok2
        · go_wp2_with fail
          go_ret2
          exact adds_no HB6.out _ _ _
        · go_wp2_with fail
          go_ret2
          exact ⟨_, _, rfl, HB6.out, ⟨_, _, _, rfl⟩, fun _ => ⟨A6, c6, bs, bt, bk, rfl, (HOK1.out trivial).1, (HOK2.out trivial).1, by rw [HM.out]; exact HN.out, HO6.out⟩⟩

/-- What Beside leaves. -/
def BesidePost (sts : List St) (a b : Int) (w : World) (e : Ending) (w' : World) : Prop := ∃ v ok, e = .returned (.tuple #[v, .bool ok]) ∧ Below w.heap.size w w' ∧
  (∃ A n c, v = .slice A n c) ∧
  (ok = true → ∃ A c bs bu, v = .slice A (rangesF bu).length c ∧ 0 ≤ a ∧ a ≤ b ∧ b ≤ 60 ∧ refB zeros sts = some bs ∧ takesF (addF zeros a (b + 1)) (rangesF bs) = some bu ∧ Reads w' w'.heap.size 2 A (rangesF bu).length (flat (rangesF bu)))
theorem beside_no {sts : List St} {a b : Int} {w w' : World} (hb : Below w.heap.size w w') (A : Option Addr) (n c : Nat) : BesidePost sts a b w (.returned (.tuple #[.slice A n c, .bool false])) w' :=
  ⟨_, _, rfl, hb, ⟨_, _, _, rfl⟩, fun h => by cases h⟩

set_option maxHeartbeats 4000000 in
theorem beside_any (A : Option Addr) (c : Nat) (sts : List St) (a b : Int) (w : World) (h : StIn w A sts) :
    Calls Try.prog 17 #[.slice A sts.length c, .int .i64 a, .int .i64 b] w (BesidePost sts a b w) := by
  have H := Lib.hid h
  clear h
  go_enter Try.func17, Try.ntmps17
  go_wp2_with fail
  refine (build_any A c sts w H.out.1 H.out.2).mono ?_
  rintro e w1 ⟨g1, cap1, bs, ok1, rfl, hl1, hown1, hok1, hb1⟩
  have HO1 := Lib.hid hown1
  have HOK1 := Lib.hid hok1
  have HB1 := Lib.hid hb1
  have hg1 := hown1.lt g1 rfl
  clear hown1 hok1 hb1
  by_cases ha : a < 0
  · go_wp2_with fail
    go_ret2
    exact beside_no HB1.out _ _ _
  by_cases hab : b < a
  · go_wp2_with fail
    go_ret2
    exact beside_no HB1.out _ _ _
  by_cases hb60 : 60 < b
  · go_wp2_with fail
    go_ret2
    exact beside_no HB1.out _ _ _
  have hb0 : 0 ≤ b := by omega
  have hb61 : b ≤ 60 := by omega
  have HAB := Lib.hid (show 0 ≤ a ∧ a ≤ b ∧ b ≤ 60 by omega)
  go_wp2_with fail
  refine (set_any w1).mono ?_
  rintro e w2 ⟨A2, c2, rfl, hown2, hb2⟩
  obtain ⟨g2, cap2, hv2, hg2, hgl2⟩ := hown2.form (by omega)
  cases hv2
  have HO2 := Lib.hid hown2
  have HB2 := Lib.hid (below_trans HB1.out hb2)
  have HO12 := Lib.hid (ownsRow_ext HO1.out hb2)
  have hs1 := HB1.out.size
  clear hown2 hb2
  go_wp2_with fail
  refine (add_any w1.heap.size g2 c2 zeros zeros_len a (b + 1) w2 HO2.out).mono ?_
  rintro e w3 ⟨rfl, hown3, hgr3⟩
  have HO3 := Lib.hid hown3
  have HB3 := Lib.hid (below_own (n := w.heap.size) HB2.out hgr3 (by omega) rfl)
  have hs3 := hgr3.size
  have HO13 := Lib.hid (HO12.out.kept hgr3 (.inr (show some g1 ≠ some g2 from fun e => by injection e with e; omega)))
  clear hown3 hgr3
  go_wp2_with fail
  have hra := ranges_any (some ⟨g1, 0, none⟩) cap1 bs w3 (by rw [hl1]; exact Reads.of_own HO13.out) (by omega)
  rw [hl1] at hra
  refine hra.mono ?_
  clear hra
  rintro e w4 ⟨A3, c3, rfl, hown4, hb4⟩
  have HO4 := Lib.hid hown4
  have HB4 := Lib.hid (below_trans HB3.out hb4)
  have HO24 := Lib.hid (ownsRow_ext HO3.out hb4)
  have hrl : (rangesF bs).length ≤ 100 := Nat.le_trans (rg_len bs bs.length) (by omega)
  clear hown4 hb4
  generalize hM : rangesF bs = M at *
  have HM := Lib.hid hM
  clear hM hl1
  go_wp2_with fail
  go_loopw [38] (fun i wr => ∃ (k : Nat) (bk : List Bool), k ≤ M.length ∧ i = .int .i64 k ∧ Hid (bk.length = 62) ∧ Hid (wr.ownsRow w1.heap.size 4 1 (.slice (some ⟨g2, 0, none⟩) 62 c2) 62 (bls bk)) ∧ Hid (takesF (addF zeros a (b + 1)) (M.take k) = some bk) ∧ Hid (Below w.heap.size w wr) ∧
    Hid (wr.ownsRow w3.heap.size 31 2 (.slice A3 M.length c3) M.length (flat M))) (fun i _ => M.length - (intOf i).toNat)
  case atStart => exact ⟨0, _, Nat.zero_le _, rfl, Lib.hid ((addF_length _ _ _).trans zeros_len), HO24, Lib.hid rfl, HB4, HO4⟩
  case round =>
    obtain ⟨k, bk, hk, rfl, HLk, HOk, HADD, HBk, HMk⟩ := hrel
    by_cases hlt : k < M.length
    · have hkr := List.getElem?_eq_getElem hlt
      have hsm : Sm M := by rw [← HM.out]; exact ranges_sm (by
        have := HO1.out.1
        rw [bls_length] at this
        omega)
      have hsmx := hsm.2 _ (List.getElem_mem hlt)
      clear hsm
      generalize M[k] = x at *
      obtain ⟨b1, off, hA, _, ca, cb⟩ := (Reads.of_own HMk.out).rg hkr
      cases hA
      have HSN := Lib.hid (show takesF (addF zeros a (b + 1)) (M.take (k + 1)) = if takeOk bk x.1 x.2 (x.2 - x.1 == 1) then some (takeF bk x.1 x.2 (x.2 - x.1 == 1)) else none by rw [take_snoc' _ _ _ hkr]; exact takesF_snoc HADD.out x)
      obtain ⟨p, q⟩ := x
      simp only at ca cb hsmx
      clear hkr
      go_wp2_with fail
      obtain ⟨W0, hW0⟩ : ∃ W0, W0 = wr.alloc (Obj.cells #[Value.int IntKind.i64 p, Value.int IntKind.i64 q] 31) := ⟨_, rfl⟩
      have hbW : Below wr.heap.size wr W0 := by rw [hW0]; exact below_alloc' (Below.refl _ _) _
      rw [← hW0]
      clear hW0
      have HBW := Lib.hid (below_trans' HBk.out HBk.out.size hbW)
      have HOW := Lib.hid (ownsRow_ext HOk.out hbW)
      have HMW := Lib.hid (ownsRow_ext HMk.out hbW)
      clear hbW
      refine (take_any w1.heap.size g2 c2 bk HLk.out p q (q - p == 1) W0 HOW.out).mono ?_
      rintro e w5 ⟨rfl, hown5, hgr5⟩
      have HO5 := Lib.hid hown5
      have HB5 := Lib.hid (below_own (n := w.heap.size) HBW.out hgr5 (by omega) rfl)
      have HM5 := Lib.hid (HMW.out.kept hgr5 (.inr (fun e => by have := (HMW.out.lt g2 e).1; omega)))
      clear hown5 hgr5
      cases hok : takeOk bk p q (q - p == 1)
      · clear hok
        go_wp2_with fail
        go_ret2
        exact beside_no HB5.out _ _ _
      · have HN := Lib.hid (show takesF (addF zeros a (b + 1)) (M.take (k + 1)) = some (takeF bk p q (q - p == 1)) by rw [HSN.out, hok]; rfl)
        clear hok
        go_wp2_with fail
        go_roundw
        case rel => exact ⟨k + 1, _, by omega, by go_num, Lib.hid ((takeF_length _ _ _ _).trans HLk.out), HO5, HN, HB5, HM5⟩
        case measure => simp [intOf]; omega
    · have hkn : k = M.length := by omega
      have HN := Lib.hid (show takesF (addF zeros a (b + 1)) M = some bk by have := HADD.out; rwa [hkn, List.take_length] at this)
      clear hkn
      go_wp2_with fail
      have hlk := HLk.out
      have hrb := ranges_any (some ⟨g2, 0, none⟩) c2 bk wr (by rw [hlk]; exact Reads.of_own HOk.out) (by omega)
      rw [hlk] at hrb
      clear hlk
      refine hrb.mono ?_
      clear hrb
      rintro e w6 ⟨A6, c6, rfl, hown6, hb6⟩
      have HO6 := Lib.hid (Reads.of_own hown6)
      have HB6 := Lib.hid (below_trans HBk.out hb6)
      clear hown6 hb6
      cases ok1
      · go_wp2_with fail
        go_ret2
        exact beside_no HB6.out _ _ _
      · go_wp2_with fail
        go_ret2
        exact ⟨_, _, rfl, HB6.out, ⟨_, _, _, rfl⟩, fun _ => ⟨A6, c6, bs, bk, rfl, HAB.out.1, HAB.out.2.1, HAB.out.2.2, (HOK1.out trivial).1, by rw [HM.out]; exact HN.out, HO6.out⟩⟩
end Go.Proofs.Ytckdcceglmlinaa
