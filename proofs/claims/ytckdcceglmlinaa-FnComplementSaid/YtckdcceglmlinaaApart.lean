/- Two sets beside each other: addSet and complement. Condition: each step is one that the reference says something of. -/
import Derived.Test.YtckdcceglmlinaaImpl
namespace Go.Proofs.Ytckdcceglmlinaa
open Go.RowKit
set_option linter.unusedSimpArgs false

/-- A set lies at g2, apart from the one at g with the row r. -/
def SetFar (w : World) (g : Nat) (r : Option Nat) (g2 : Nat) (M : List Rg) : Prop :=
  ∃ A c, Blk w g2 72 #[.slice A M.length c, .bool false] ∧ Reads w w.heap.size 2 A M.length (flat M) ∧ g2 ≠ g ∧ some g2 ≠ r ∧ (0 < M.length → ∀ ad, A = some ad → ad.block ≠ g ∧ some ad.block ≠ r)
theorem SetFar.read {w : World} {g g2 : Nat} {r : Option Nat} {M : List Rg} (h : SetFar w g r g2 M) : SetR w g2 M := by
  obtain ⟨A, c, h1, h2, _⟩ := h
  exact ⟨A, c, h1, h2⟩
theorem SetFar.keep {w w' : World} {g g2 : Nat} {r r' : Option Nat} {M : List Rg} (h : SetFar w g r g2 M) (k : KeepS w w' g r r') : SetFar w' g r' g2 M := by
  obtain ⟨A, c, h1, h2, h3, h4, h5⟩ := h
  have hg := h1.lt
  have far : ∀ x, x < w.heap.size → some x ≠ r → some x ≠ r' := by
    intro x hx hr
    rcases k.next with e | ⟨y, e, hy⟩
    · rw [e]; exact hr
    · rw [e]; intro he; injection he with he; omega
  refine ⟨A, c, (k.block g2 hg h3 h4).trans h1, ⟨h2.1, fun hn => ?_⟩, h3, far _ hg h4, fun hn ad he => ?_⟩
  · obtain ⟨ad, rfl, hb, hc⟩ := h2.2 hn
    refine ⟨ad, rfl, Nat.lt_of_lt_of_le hb k.size, fun j u hu => ?_⟩
    have h6 := h5 hn ad rfl
    refine (World.cell?_of_block ?_).trans (hc j u hu)
    rw [block_of_add]
    exact k.block _ hb h6.1 h6.2
  · obtain ⟨ad', he', hb, hc⟩ := h2.2 hn
    rw [he] at he'; cases he'
    have h6 := h5 hn ad he
    exact ⟨h6.1, far _ hb h6.2⟩
/-- what was there before a set that was made since -/
theorem SetR.far {w w' : World} {base g g2 : Nat} {r : Option Nat} {L M : List Rg} (h : SetR w g2 M) (hb : Below w.heap.size w w') (hs : SetAt w' base g r L) (hbase : w.heap.size ≤ base) : SetFar w' g r g2 M := by
  have h' := h.below hb
  obtain ⟨A, c, h1, h2⟩ := h
  have h1' := h1.below hb h1.lt
  have hg := h1.lt
  have hgl := hs.lt.1
  have hrow : ∀ x, x < w.heap.size → some x ≠ r := by
    intro x hx e
    subst e
    have := hs.row.1
    omega
  refine ⟨A, c, h1', h2.ext hb, by omega, hrow _ hg, fun hn ad he => ?_⟩
  obtain ⟨ad', he', hb', _⟩ := h2.2 hn
  rw [he] at he'; cases he'
  exact ⟨by omega, hrow _ hb'⟩
/-- a set that was made later -/
theorem SetAt.far {w w' : World} {base g g2 : Nat} {r r2 : Option Nat} {L M : List Rg} (hs : SetAt w base g r L) (_hb : Below w.heap.size w w') (h2 : SetAt w' w.heap.size g2 r2 M) : SetFar w' g r g2 M := by
  have hg := hs.lt.2
  have hg2 := h2.lt.1
  have hr : ∀ x, r = some x → x < w.heap.size := by intro x e; subst e; exact hs.row.2
  rcases h2.cases with ⟨rfl, rfl, hblk, _⟩ | ⟨rb, c, rfl, hblk, hown, _⟩
  · exact ⟨none, 0, hblk, Reads.none_, by omega, fun e => by have := hr _ e.symm; omega, fun hn => absurd hn (by simp)⟩
  · refine ⟨_, c, hblk, Reads.of_own hown, by omega, fun e => by have := hr _ e.symm; omega, fun _ ad he => ?_⟩
    cases he
    have := (hown.lt rb rfl).1
    exact ⟨by simp only; omega, fun e => by have := hr _ e.symm; simp only at this; omega⟩

/-- the ranges of one set added to another one's -/
def addAll (L : List Rg) (M : List Rg) : List Rg := M.foldl (fun acc x => addI x.1 x.2 acc) L
theorem addAll_snoc (L M : List Rg) (x : Rg) : addAll L (M ++ [x]) = addI x.1 x.2 (addAll L M) := by simp [addAll]

set_option maxHeartbeats 2000000 in
theorem addSet_any (base g g2 : Nat) (r : Option Nat) (L M : List Rg) (w : World) (hs : SetAt w base g r L) (hf : SetFar w g r g2 M) (hm : M.length ≤ 100) (hl : ∀ k, k ≤ M.length → (addAll L (M.take k)).length ≤ 100) :
    Calls Try.prog 48 #[.pointer (some ⟨g, 0, none⟩), .pointer (some ⟨g2, 0, none⟩)] w (fun e w' => ∃ r', e = .returned (.pointer (some ⟨g, 0, none⟩)) ∧ SetAt w' base g r' (addAll L M) ∧ KeepS w w' g r r') := by
  have HL := Lib.hid hl
  have HS := Lib.hid hs
  have HF := Lib.hid hf
  clear hl hs hf
  obtain ⟨A, c, h1, h2⟩ := HF.out.read
  have q1 := neqNil70
  have c0 : w.cell? ⟨g2, 0, none⟩ = some (.slice A M.length c) := h1.cell 0
  have H2 := Lib.hid h2
  clear h1 h2
  cases A with
  | none =>
    have hM : M = [] := by
      cases M with
      | nil => rfl
      | cons x t => obtain ⟨b, off, h, _⟩ := H2.out.rg (k := 0) rfl; cases h
    subst hM
    go_enter Try.func48, Try.ntmps48
    go_wp2_with fail
    go_ret
    exact ⟨r, rfl, HS.out, KeepS.refl _ _ _⟩
  | some ad =>
    go_enter Try.func48, Try.ntmps48
    go_wp2_with fail
    go_loopw [5] (fun i wr => ∃ (k : Nat) (r' : Option Nat), k ≤ M.length ∧ i = .int .i64 k ∧ Hid (SetAt wr base g r' (addAll L (M.take k))) ∧ Hid (KeepS w wr g r r') ∧ Hid (SetFar wr g r' g2 M)) (fun i _ => M.length - (intOf i).toNat)
    case atStart => exact ⟨0, r, Nat.zero_le _, rfl, HS, Lib.hid (KeepS.refl _ _ _), HF⟩
    case round =>
      obtain ⟨k, r', hk, rfl, HSr, HKr, HFr⟩ := hrel
      obtain ⟨A', c', h1', h2'⟩ := HFr.out.read
      have c0' : wr.cell? ⟨g2, 0, none⟩ = some (.slice A' M.length c') := h1'.cell 0
      have H2' := Lib.hid h2'
      clear h1' h2'
      by_cases hlt : k < M.length
      · have hkr := List.getElem?_eq_getElem hlt
        generalize M[k] = x at *
        obtain ⟨b, off, hA, _, ca, cb⟩ := H2'.out.rg hkr
        cases hA
        have HT := Lib.hid (show addAll L (M.take (k + 1)) = addI x.1 x.2 (addAll L (M.take k)) by rw [take_snoc' _ _ _ hkr, addAll_snoc])
        have HLk := Lib.hid (HL.out k (by omega))
        obtain ⟨p, q⟩ := x
        simp only at ca cb
        clear hkr
        go_wp2_with fail
        obtain ⟨W0, hW0⟩ : ∃ W0, W0 = wr.alloc (Obj.cells #[Value.int IntKind.i64 p, Value.int IntKind.i64 q] 68) := ⟨_, rfl⟩
        have hbW : Below wr.heap.size wr W0 := by rw [hW0]; exact below_alloc' (Below.refl _ _) _
        rw [← hW0]
        clear hW0
        refine (NewInterval_any p q W0).mono ?_
        rintro e w1 ⟨rfl, hb1⟩
        have HB1 := Lib.hid (below_trans hbW hb1)
        clear hb1 hbW
        go_wp2_with fail
        refine (addInterval_any base g r' (addAll L (M.take k)) p q w1 (HSr.out.ext HB1.out) HLk.out).mono ?_
        rintro e w2 ⟨r2, rfl, hs2, hk2⟩
        have HK2 := Lib.hid ((KeepS.of_below HB1.out g r').trans hk2)
        have HS2 := Lib.hid hs2
        clear hs2 hk2
        go_wp2_with fail
        go_roundw
        case rel => exact ⟨k + 1, r2, by omega, by go_num, Lib.hid (by rw [HT.out]; exact HS2.out), Lib.hid (HKr.out.trans HK2.out), Lib.hid (HFr.out.keep HK2.out)⟩
        case measure => simp [intOf]; omega
      · have hkn : k = M.length := by omega
        have HN := Lib.hid (show addAll L (M.take k) = addAll L M by rw [hkn, List.take_length])
        clear hkn
        go_wp2_with fail
        go_ret
        exact ⟨r', rfl, by rw [← HN.out]; exact HSr.out, HKr.out⟩
theorem zzAddSet_any (base g g2 : Nat) (r : Option Nat) (L M : List Rg) (w : World) (hs : SetAt w base g r L) (hf : SetFar w g r g2 M) (hm : M.length ≤ 100) (hl : ∀ k, k ≤ M.length → (addAll L (M.take k)).length ≤ 100) :
    Calls Try.prog 35 #[.pointer (some ⟨g, 0, none⟩), .pointer (some ⟨g2, 0, none⟩)] w (SetPost base g r (addAll L M) w) := by
  have HL := Lib.hid hl
  have HS := Lib.hid hs
  have HF := Lib.hid hf
  clear hl hs hf
  go_enter Try.func35, Try.ntmps35
  go_wp2_with fail
  refine (addSet_any base g g2 r L M w HS.out HF.out hm HL.out).mono ?_
  rintro e w2 ⟨r', rfl, hs, hk⟩
  have HS2 := Lib.hid hs
  have HK2 := Lib.hid hk
  clear hs hk
  go_wp2_with fail
  go_end0
  exact ⟨r', rfl, HS2.out, HK2.out⟩

/-- the ranges of one set taken away from another one's -/
def rmAll (L : List Rg) (M : List Rg) : List Rg := M.foldl (fun acc x => rmR x.1 x.2 acc) L
theorem rmAll_snoc (L M : List Rg) (x : Rg) : rmAll L (M ++ [x]) = rmR x.1 x.2 (rmAll L M) := by simp [rmAll]
/-- each of them may be taken -/
def RmOk (L M : List Rg) : Prop := ∀ (k : Nat) (x : Rg), M[k]? = some x → Sm (rmAll L (M.take k)) ∧ (∀ r ∈ rmAll L (M.take k), r.1 < r.2) ∧ MayTake x.1 x.2 (rmAll L (M.take k))

set_option maxHeartbeats 2000000 in
theorem complement_any (g2 : Nat) (M : List Rg) (a b : Int) (w : World) (h : SetR w g2 M) (hm : M.length ≤ 100) (hb0 : 0 ≤ b ∧ b ≤ 100) (hok : RmOk [(a, b + 1)] M) :
    Calls Try.prog 47 #[.pointer (some ⟨g2, 0, none⟩), .int .i64 a, .int .i64 b] w (MadeSet (rmAll [(a, b + 1)] M) w) := by
  have H := Lib.hid h
  have HOK := Lib.hid hok
  clear h hok
  go_enter Try.func47, Try.ntmps47
  go_wp2_with fail
  refine (newSet_any w).mono ?_
  rintro e w1 ⟨rfl, hs1, hb1⟩
  have HS1 := Lib.hid hs1
  have HB1 := Lib.hid hb1
  clear hs1 hb1
  go_wp2_with fail
  refine (NewInterval_any a (b + 1) w1).mono ?_
  rintro e w2 ⟨rfl, hb2⟩
  have HB2 := Lib.hid (below_trans HB1.out hb2)
  have HS2 := Lib.hid (HS1.out.ext hb2)
  clear hb2
  go_wp2_with fail
  refine (addInterval_any w.heap.size w.heap.size none [] a (b + 1) w2 HS2.out (by simp)).mono ?_
  rintro e w3 ⟨r3, rfl, hs3, hk3⟩
  have HB3 := Lib.hid (KeepS.belowS HB2.out HS2.out hk3)
  have HS3 := Lib.hid hs3
  have HF3 := Lib.hid (H.out.far HB3.out hs3 (Nat.le_refl _))
  clear hs3 hk3
  go_wp2_with fail
  go_loopw [8] (fun i wr => ∃ (k : Nat) (r' : Option Nat), k ≤ M.length ∧ i = .int .i64 k ∧ Hid (SetAt wr w.heap.size w.heap.size r' (rmAll [(a, b + 1)] (M.take k))) ∧ Hid (Below w.heap.size w wr) ∧ Hid (SetFar wr w.heap.size r' g2 M)) (fun i _ => M.length - (intOf i).toNat)
  case atStart => exact ⟨0, r3, Nat.zero_le _, rfl, HS3, HB3, HF3⟩
  case round =>
    obtain ⟨k, r', hk, rfl, HSr, HBr, HFr⟩ := hrel
    obtain ⟨A', c', h1', h2'⟩ := HFr.out.read
    have c0' : wr.cell? ⟨g2, 0, none⟩ = some (.slice A' M.length c') := h1'.cell 0
    have H2' := Lib.hid h2'
    clear h1' h2'
    by_cases hlt : k < M.length
    · have hkr := List.getElem?_eq_getElem hlt
      generalize M[k] = x at *
      obtain ⟨b1, off, hA, _, ca, cb⟩ := H2'.out.rg hkr
      cases hA
      have HT := Lib.hid (show rmAll [(a, b + 1)] (M.take (k + 1)) = rmR x.1 x.2 (rmAll [(a, b + 1)] (M.take k)) by rw [take_snoc' _ _ _ hkr, rmAll_snoc])
      have HOk := Lib.hid (HOK.out k x hkr)
      obtain ⟨p, q⟩ := x
      simp only at ca cb
      clear hkr
      go_wp2_with fail
      refine (removeRange_any w.heap.size w.heap.size r' (rmAll [(a, b + 1)] (M.take k)) p q wr HSr.out HOk.out.1 HOk.out.2.1 HOk.out.2.2).mono ?_
      rintro e w2 ⟨r2, rfl, hs2, hk2⟩
      have HK2 := Lib.hid hk2
      have HS2 := Lib.hid hs2
      clear hs2 hk2
      go_wp2_with fail
      go_roundw
      case rel => exact ⟨k + 1, r2, by omega, by go_num, Lib.hid (by rw [HT.out]; exact HS2.out), Lib.hid (KeepS.belowS HBr.out HSr.out HK2.out), Lib.hid (HFr.out.keep HK2.out)⟩
      case measure => simp [intOf]; omega
    · have hkn : k = M.length := by omega
      have HN := Lib.hid (show rmAll [(a, b + 1)] (M.take k) = rmAll [(a, b + 1)] M by rw [hkn, List.take_length])
      clear hkn
      go_wp2_with fail
      go_ret
      exact ⟨_, r', rfl, by rw [← HN.out]; exact HSr.out, HBr.out⟩
theorem zzComplement_any (g2 : Nat) (M : List Rg) (a b : Int) (w : World) (h : SetR w g2 M) (hm : M.length ≤ 100) (hb0 : 0 ≤ b ∧ b ≤ 100) (hok : RmOk [(a, b + 1)] M) :
    Calls Try.prog 34 #[.pointer (some ⟨g2, 0, none⟩), .int .i64 a, .int .i64 b] w (MadeSet (rmAll [(a, b + 1)] M) w) := by
  have H := Lib.hid h
  have HOK := Lib.hid hok
  clear h hok
  go_enter Try.func34, Try.ntmps34
  go_wp2_with fail
  refine (complement_any g2 M a b w H.out hm hb0 HOK.out).mono ?_
  rintro e w2 ⟨g, r', rfl, hs, hb⟩
  have HS2 := Lib.hid hs
  have HK2 := Lib.hid hb
  clear hs hb
  go_wp2_with fail
  go_ret
  exact ⟨g, r', rfl, HS2.out, HK2.out⟩

theorem implAddSet_any (A A' : Option Addr) (c c' : Nat) (sts sts' : List St) (bs bs' : List Bool) (w : World) (h : StIn w A sts) (hr : refB zeros sts = some bs) (h' : StIn w A' sts') (hr' : refB zeros sts' = some bs')
    (hl : ∀ k, k ≤ (rangesF bs').length → (addAll (rangesF bs) ((rangesF bs').take k)).length ≤ 100) :
    Calls Try.prog 22 #[.slice A sts.length c, .slice A' sts'.length c'] w (ReadPost (addAll (rangesF bs) (rangesF bs')) w) := by
  have hsm := ranges_sm (refB_len zeros_len hr')
  have H := Lib.hid h
  have HR := Lib.hid hr
  have H' := Lib.hid h'
  have HR' := Lib.hid hr'
  have HS := Lib.hid hsm
  have HL := Lib.hid hl
  have HLL := Lib.hid (show (addAll (rangesF bs) (rangesF bs')).length ≤ 100 by have := hl _ (Nat.le_refl _); rwa [List.take_length] at this)
  clear h hr hsm h' hr' hl
  go_enter Try.func22, Try.ntmps22
  go_wp2_with fail
  refine (made_any A c sts bs w H.out HR.out).mono ?_
  rintro e w1 ⟨g, r, rfl, hs, hb⟩
  have HS1 := Lib.hid hs
  have HB := Lib.hid hb
  clear hs hb
  go_wp2_with fail
  refine (made_any A' c' sts' bs' w1 (H'.out.ext HB.out) HR'.out).mono ?_
  rintro e w2 ⟨g', r', rfl, hs, hb⟩
  have HF2 := Lib.hid (HS1.out.far hb hs)
  have HS2 := Lib.hid (HS1.out.ext hb)
  have HB2 := Lib.hid (below_trans HB.out hb)
  clear hs hb
  go_wp2_with fail
  refine (zzAddSet_any w.heap.size g g' r (rangesF bs) (rangesF bs') w2 HS2.out HF2.out HS.out.1 HL.out).mono ?_
  rintro e w3 ⟨r3, rfl, hs3, hk3⟩
  have HB3 := Lib.hid (KeepS.belowS HB2.out HS2.out hk3)
  have HS3 := Lib.hid hs3.read
  clear hs3 hk3
  go_wp2_with fail
  refine (implRanges_any g (addAll (rangesF bs) (rangesF bs')) w3 HS3.out HLL.out).mono ?_
  rintro e w4 ⟨A4, c4, rfl, hown, hb4⟩
  have HO := Lib.hid (Reads.of_own hown)
  have HB4 := Lib.hid (below_trans HB3.out hb4)
  clear hown hb4
  go_wp2_with fail
  go_ret
  exact ⟨_, _, rfl, HO.out, HB4.out⟩
theorem implComplement_any (A : Option Addr) (c : Nat) (sts : List St) (bs : List Bool) (a b : Int) (w : World) (h : StIn w A sts) (hr : refB zeros sts = some bs) (hb0 : 0 ≤ b ∧ b ≤ 100) (hok : RmOk [(a, b + 1)] (rangesF bs)) (hll : (rmAll [(a, b + 1)] (rangesF bs)).length ≤ 100) :
    Calls Try.prog 19 #[.slice A sts.length c, .int .i64 a, .int .i64 b] w (ReadPost (rmAll [(a, b + 1)] (rangesF bs)) w) := by
  have hsm := ranges_sm (refB_len zeros_len hr)
  have H := Lib.hid h
  have HR := Lib.hid hr
  have HS := Lib.hid hsm
  have HOK := Lib.hid hok
  have HLL := Lib.hid hll
  clear h hr hsm hok hll
  go_enter Try.func19, Try.ntmps19
  go_wp2_with fail
  refine (made_any A c sts bs w H.out HR.out).mono ?_
  rintro e w1 ⟨g, r, rfl, hs, hb⟩
  have HS1 := Lib.hid hs.read
  have HB := Lib.hid hb
  clear hs hb
  go_wp2_with fail
  refine (zzComplement_any g (rangesF bs) a b w1 HS1.out HS.out.1 hb0 HOK.out).mono ?_
  rintro e w2 ⟨g2, r2, rfl, hs2, hb2⟩
  have HB2 := Lib.hid (below_trans HB.out hb2)
  have HS2 := Lib.hid hs2.read
  clear hs2 hb2
  go_wp2_with fail
  refine (implRanges_any g2 _ w2 HS2.out HLL.out).mono ?_
  rintro e w4 ⟨A4, c4, rfl, hown, hb4⟩
  have HO := Lib.hid (Reads.of_own hown)
  have HB4 := Lib.hid (below_trans HB2.out hb4)
  clear hown hb4
  go_wp2_with fail
  go_ret
  exact ⟨_, _, rfl, HO.out, HB4.out⟩
end Go.Proofs.Ytckdcceglmlinaa
