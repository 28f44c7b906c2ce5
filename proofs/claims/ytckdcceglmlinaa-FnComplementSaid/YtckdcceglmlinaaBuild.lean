/- The walk of the reference's build: a set made by steps. Condition: the bound on the length. -/
import Derived.Test.YtckdcceglmlinaaTake
namespace Go.Proofs.Ytckdcceglmlinaa
open Go.RowKit
set_option linter.unusedSimpArgs false

structure St where
  op : Int
  a : Int
  b : Int
def flat3 : List St → List Value
  | [] => []
  | r :: t => .int .i64 r.op :: .int .i64 r.a :: .int .i64 r.b :: flat3 t
theorem flat3_length (L : List St) : (flat3 L).length = L.length * 3 := by
  induction L with
  | nil => rfl
  | cons r t ih => simp [flat3, ih]; omega
theorem flat3_append (L M : List St) : flat3 (L ++ M) = flat3 L ++ flat3 M := by
  induction L with
  | nil => rfl
  | cons r t ih => simp [flat3, ih]
theorem flat3_at {L : List St} {k : Nat} {r : St} (h : L[k]? = some r) : (flat3 L)[k * 3]? = some (.int .i64 r.op) ∧ (flat3 L)[k * 3 + 1]? = some (.int .i64 r.a) ∧ (flat3 L)[k * 3 + 2]? = some (.int .i64 r.b) := by
  induction L generalizing k with
  | nil => simp at h
  | cons a t ih =>
    cases k with
    | zero => simp at h; subst h; exact ⟨rfl, rfl, rfl⟩
    | succ k =>
      have := ih (k := k) (by simpa using h)
      rw [show (k + 1) * 3 = k * 3 + 1 + 1 + 1 by omega]
      exact this
theorem flat3_take_succ {L : List St} {k : Nat} {r : St} (hk : L[k]? = some r) : flat3 (L.take (k + 1)) = flat3 (L.take k) ++ [.int .i64 r.op, .int .i64 r.a, .int .i64 r.b] := by
  rw [take_snoc' _ _ _ hk, flat3_append]; rfl
theorem Reads.st {w : World} {B : Nat} {A : Option Addr} {L : List St} {k : Nat} {r : St} (h : Reads w B 3 A L.length (flat3 L)) (hk : L[k]? = some r) :
    ∃ b off, A = some ⟨b, off, none⟩ ∧ b < B ∧ w.cell? ⟨b, off + k * 3, none⟩ = some (.int .i64 r.op) ∧ w.cell? ⟨b, off + k * 3 + 1, none⟩ = some (.int .i64 r.a) ∧ w.cell? ⟨b, off + k * 3 + 2, none⟩ = some (.int .i64 r.b) := by
  have hlt : k < L.length := (List.getElem?_eq_some_iff.1 hk).1
  obtain ⟨b, off, e, hb, hc⟩ := h.lit (by omega) (by omega)
  obtain ⟨h1, h2, h3⟩ := flat3_at hk
  exact ⟨b, off, e, hb, hc _ _ h1, hc _ _ h2, hc _ _ h3⟩

def small (s : St) : Bool := decide (0 ≤ s.a) && decide (s.a ≤ 60) && decide (0 ≤ s.b) && decide (s.b ≤ 61)
/-- a step of the reference -/
def refS (bs : List Bool) (s : St) : Option (List Bool) :=
  if small s = false then none
  else if s.op = 0 then if addOk bs s.a (s.a + 1) then some (addF bs s.a (s.a + 1)) else none
  else if s.op = 1 then if s.b ≤ 60 ∧ addOk bs s.a (s.b + 1) = true then some (addF bs s.a (s.b + 1)) else none
  else if s.op = 2 then if takeOk bs s.a (s.a + 1) true then some (takeF bs s.a (s.a + 1) true) else none
  else if s.op = 3 then if takeOk bs s.a s.b (s.b - s.a == 1) then some (takeF bs s.a s.b (s.b - s.a == 1)) else none
  else none
def refB (bs : List Bool) : List St → Option (List Bool)
  | [] => some bs
  | s :: r => match refS bs s with
    | some bs' => refB bs' r
    | none => none
theorem refB_snoc {bs bs' : List Bool} {l : List St} (h : refB bs l = some bs') (s : St) : refB bs (l ++ [s]) = refS bs' s := by
  induction l generalizing bs with
  | nil => simp only [refB, Option.some.injEq] at h; subst h; simp only [List.nil_append, refB]; cases refS bs s <;> rfl
  | cons a r ih =>
    simp only [List.cons_append, refB] at h ⊢
    cases hs : refS bs a with
    | none => rw [hs] at h; cases h
    | some b1 => rw [hs] at h; exact ih h
theorem addF_length (bs : List Bool) (a b : Int) : (addF bs a b).length = bs.length := by unfold addF; split; exact fillN_length ..; rfl
theorem takeF_length (bs : List Bool) (a b : Int) (s : Bool) : (takeF bs a b s).length = bs.length := by unfold takeF; split; exact fillN_length ..; rfl
theorem addOk_neg {bs : List Bool} {a b : Int} (h : a < 0) : addOk bs a b = false := by simp [addOk]; omega
theorem takeOk_neg {bs : List Bool} {a b : Int} {s : Bool} (h : a < 0) : takeOk bs a b s = false := by simp [takeOk]; omega

/-- What build leaves. -/
def BuildPost (sts : List St) (w : World) (e : Ending) (w' : World) : Prop := ∃ g cap bs ok, e = .returned (.tuple #[.slice (some ⟨g, 0, none⟩) 62 cap, .bool ok]) ∧ bs.length = 62 ∧
  w'.ownsRow w.heap.size 4 1 (.slice (some ⟨g, 0, none⟩) 62 cap) 62 (bls bs) ∧ (ok = true → refB zeros sts = some bs ∧ sts.length ≤ 16) ∧ Below w.heap.size w w'

theorem below_own {w a b : World} {n : Nat} {g : Nat} (h : Below w.heap.size w a) (hgr : a.grownBy b (some g)) (hg : w.heap.size ≤ g) (hn : n = w.heap.size) : Below n w b := by
  subst hn; exact h.grown hgr h.size (fun k hk => by cases hk; exact hg)

def WeakPost (base g cap : Nat) (a : Int) (w : World) (e : Ending) (w' : World) : Prop :=
  ∃ ok bs, e = .returned (.bool ok) ∧ (ok = true → 0 ≤ a) ∧ bs.length = 62 ∧ w'.ownsRow base 4 1 (.slice (some ⟨g, 0, none⟩) 62 cap) 62 (bls bs) ∧ w.grownBy w' (some g)
theorem add_weak (base g cap : Nat) (bs : List Bool) (hl : bs.length = 62) (a b : Int) (w : World) (hown : w.ownsRow base 4 1 (.slice (some ⟨g, 0, none⟩) 62 cap) 62 (bls bs)) :
    Calls Try.prog 31 #[.slice (some ⟨g, 0, none⟩) 62 cap, .int .i64 a, .int .i64 b] w (WeakPost base g cap a w) := by
  refine (add_any base g cap bs hl a b w hown).mono ?_
  rintro e w' ⟨rfl, h1, h2⟩
  exact ⟨_, _, rfl, fun h => by by_cases h0 : a < 0; rw [addOk_neg h0] at h; cases h; omega, (addF_length ..).trans hl, h1, h2⟩
theorem take_weak (base g cap : Nat) (bs : List Bool) (hl : bs.length = 62) (a b : Int) (s : Bool) (w : World) (hown : w.ownsRow base 4 1 (.slice (some ⟨g, 0, none⟩) 62 cap) 62 (bls bs)) :
    Calls Try.prog 32 #[.slice (some ⟨g, 0, none⟩) 62 cap, .int .i64 a, .int .i64 b, .bool s] w (WeakPost base g cap a w) := by
  refine (take_any base g cap bs hl a b s w hown).mono ?_
  rintro e w' ⟨rfl, h1, h2⟩
  exact ⟨_, _, rfl, fun h => by by_cases h0 : a < 0; rw [takeOk_neg h0] at h; cases h; omega, (takeF_length ..).trans hl, h1, h2⟩

set_option maxRecDepth 10000 in
set_option maxHeartbeats 8000000 in
theorem build_any (A : Option Addr) (c : Nat) (sts : List St) (w : World) (h : Reads w w.heap.size 3 A sts.length (flat3 sts)) (hm : sts.length ≤ 2147483647) :
    Calls Try.prog 23 #[.slice A sts.length c] w (BuildPost sts w) := by
  have H3 := Lib.hid h
  clear h
  go_enter Try.func23, Try.ntmps23
  go_wp2_with fail
  refine (set_any w).mono ?_
  rintro e w1 ⟨A1, c1, rfl, hown, hb⟩
  obtain ⟨g, cap, hv, hg, hgl⟩ := hown.form (by omega)
  cases hv
  have HO1 := Lib.hid hown
  have HB1 := Lib.hid hb
  clear hown hb hgl
  go_wp2_with fail
  go_loopw [11] (fun i wr => ∃ (k : Nat) (bs : List Bool), k ≤ sts.length ∧ i = .int .i64 k ∧ bs.length = 62 ∧ wr.ownsRow w.heap.size 4 1 (.slice (some ⟨g, 0, none⟩) 62 c1) 62 (bls bs) ∧ Hid (refB zeros (sts.take k) = some bs) ∧ Below w.heap.size w wr) (fun i _ => sts.length - (intOf i).toNat)
  case atStart => exact ⟨0, zeros, Nat.zero_le _, rfl, rfl, HO1.out, Lib.hid rfl, HB1.out⟩
  case round =>
    obtain ⟨k, bs, hk, rfl, hbl, hown, HREF, hb⟩ := hrel
    have hgl : g < wr.heap.size := (hown.lt g rfl).2
    by_cases hlt : k < sts.length
    · have hks := List.getElem?_eq_getElem hlt
      generalize sts[k] = st at *
      obtain ⟨b1, off, rfl, _, ca, cb, cc⟩ := (H3.out.ext hb).st hks
      have HST := Lib.hid (take_snoc' _ _ _ hks)
      have HO := Lib.hid hown
      have HB := Lib.hid hb
      clear hks hown hb
      obtain ⟨o, a, b⟩ := st
      simp only at ca cb cc
      have HSN := Lib.hid (show refB zeros (sts.take (k + 1)) = refS bs ⟨o, a, b⟩ by rw [HST.out]; exact refB_snoc HREF.out _)
      by_cases hsm : 0 ≤ a ∧ a ≤ 60 ∧ 0 ≤ b ∧ b ≤ 61
      · obtain ⟨ha0, ha1, hb0, hb1⟩ := hsm
        have HSM := Lib.hid (show small ⟨o, a, b⟩ = true by simp [small]; omega)
        by_cases ho0 : o = 0
        · subst ho0
          go_wp2_with fail
          obtain ⟨W0, hW0⟩ : ∃ W0, W0 = wr.alloc (Obj.cells #[Value.int IntKind.i64 0, Value.int IntKind.i64 a, Value.int IntKind.i64 b] 51) := ⟨_, rfl⟩
          have d1 : W0.cell? ⟨wr.heap.size, 1, none⟩ = some (.int .i64 a) := by rw [hW0]; simp [World.cell?_alloc_new]
          have d2 : W0.cell? ⟨wr.heap.size, 2, none⟩ = some (.int .i64 b) := by rw [hW0]; simp [World.cell?_alloc_new]
          have hbW : Below wr.heap.size wr W0 := by rw [hW0]; exact (Below.refl _ _).alloc (Nat.le_refl _) _
          clear ca cb cc
          rw [← hW0]
          clear hW0
          refine (add_any w.heap.size g c1 bs hbl a (a + 1) W0 (ownsRow_ext HO.out hbW)).mono ?_
          rintro e w2 ⟨rfl, hown2, hgr⟩
          have e1 := hgr.cell d1 (by simp; omega)
          have e2 := hgr.cell d2 (by simp; omega)
          have HO2 := Lib.hid hown2
          have HB2 := Lib.hid (below_own (n := w.heap.size) (below_trans HB.out hbW) hgr hg rfl)
          clear hown2 hgr d1 d2 hbW
          cases hok : addOk bs a (a + 1)
          · clear hok
            go_wp2_with fail
            go_ret2
            exact ⟨g, c1, _, false, rfl, (addF_length _ _ _).trans hbl, HO2.out, (fun h => by cases h), HB2.out⟩
          · have HN := Lib.hid (show refB zeros (sts.take (k + 1)) = some (addF bs a (a + 1)) by rw [HSN.out]; simp [refS, HSM.out, hok])
            clear hok
            go_wp2_with fail
            go_roundw
            case rel => exact ⟨k + 1, _, by omega, by go_num, (addF_length _ _ _).trans hbl, HO2.out, Lib.hid HN.out, HB2.out⟩
            case measure => simp [intOf]; omega
        by_cases ho1 : o = 1
        · subst ho1
          by_cases hb60 : b ≤ 60
          · go_wp2_with fail
            obtain ⟨W0, hW0⟩ : ∃ W0, W0 = wr.alloc (Obj.cells #[Value.int IntKind.i64 1, Value.int IntKind.i64 a, Value.int IntKind.i64 b] 51) := ⟨_, rfl⟩
            have d1 : W0.cell? ⟨wr.heap.size, 1, none⟩ = some (.int .i64 a) := by rw [hW0]; simp [World.cell?_alloc_new]
            have d2 : W0.cell? ⟨wr.heap.size, 2, none⟩ = some (.int .i64 b) := by rw [hW0]; simp [World.cell?_alloc_new]
            have hbW : Below wr.heap.size wr W0 := by rw [hW0]; exact (Below.refl _ _).alloc (Nat.le_refl _) _
            clear ca cb cc
            rw [← hW0]
            clear hW0
            refine (add_any w.heap.size g c1 bs hbl a (b + 1) W0 (ownsRow_ext HO.out hbW)).mono ?_
            rintro e w2 ⟨rfl, hown2, hgr⟩
            have e1 := hgr.cell d1 (by simp; omega)
            have e2 := hgr.cell d2 (by simp; omega)
            have HO2 := Lib.hid hown2
            have HB2 := Lib.hid (below_own (n := w.heap.size) (below_trans HB.out hbW) hgr hg rfl)
            clear hown2 hgr d1 d2 hbW
            cases hok : addOk bs a (b + 1)
            · clear hok
              go_wp2_with fail
              go_ret2
              exact ⟨g, c1, _, false, rfl, (addF_length _ _ _).trans hbl, HO2.out, (fun h => by cases h), HB2.out⟩
            · have HN := Lib.hid (show refB zeros (sts.take (k + 1)) = some (addF bs a (b + 1)) by rw [HSN.out]; simp [refS, HSM.out, hok, hb60])
              clear hok
              go_wp2_with fail
              go_roundw
              case rel => exact ⟨k + 1, _, by omega, by go_num, (addF_length _ _ _).trans hbl, HO2.out, Lib.hid HN.out, HB2.out⟩
              case measure => simp [intOf]; omega
          · go_wp2_with fail
            go_ret2
            exact ⟨g, c1, _, false, rfl, hbl, ownsRow_ext HO.out ((Below.refl _ _).alloc (Nat.le_refl _) _), (fun h => by cases h), below_alloc' HB.out _⟩
        by_cases ho2 : o = 2
        · subst ho2
          go_wp2_with fail
          obtain ⟨W0, hW0⟩ : ∃ W0, W0 = wr.alloc (Obj.cells #[Value.int IntKind.i64 2, Value.int IntKind.i64 a, Value.int IntKind.i64 b] 51) := ⟨_, rfl⟩
          have d1 : W0.cell? ⟨wr.heap.size, 1, none⟩ = some (.int .i64 a) := by rw [hW0]; simp [World.cell?_alloc_new]
          have d2 : W0.cell? ⟨wr.heap.size, 2, none⟩ = some (.int .i64 b) := by rw [hW0]; simp [World.cell?_alloc_new]
          have hbW : Below wr.heap.size wr W0 := by rw [hW0]; exact (Below.refl _ _).alloc (Nat.le_refl _) _
          clear ca cb cc
          rw [← hW0]
          clear hW0
          refine (take_any w.heap.size g c1 bs hbl a (a + 1) true W0 (ownsRow_ext HO.out hbW)).mono ?_
          rintro e w2 ⟨rfl, hown2, hgr⟩
          have e1 := hgr.cell d1 (by simp; omega)
          have e2 := hgr.cell d2 (by simp; omega)
          have HO2 := Lib.hid hown2
          have HB2 := Lib.hid (below_own (n := w.heap.size) (below_trans HB.out hbW) hgr hg rfl)
          clear hown2 hgr d1 d2 hbW
          cases hok : takeOk bs a (a + 1) true
          · clear hok
            go_wp2_with fail
            go_ret2
            exact ⟨g, c1, _, false, rfl, (takeF_length _ _ _ _).trans hbl, HO2.out, (fun h => by cases h), HB2.out⟩
          · have HN := Lib.hid (show refB zeros (sts.take (k + 1)) = some (takeF bs a (a + 1) true) by rw [HSN.out]; simp [refS, HSM.out, hok])
            clear hok
            go_wp2_with fail
            go_roundw
            case rel => exact ⟨k + 1, _, by omega, by go_num, (takeF_length _ _ _ _).trans hbl, HO2.out, Lib.hid HN.out, HB2.out⟩
            case measure => simp [intOf]; omega
        by_cases ho3 : o = 3
        · subst ho3
          go_wp2_with fail
          obtain ⟨W0, hW0⟩ : ∃ W0, W0 = wr.alloc (Obj.cells #[Value.int IntKind.i64 3, Value.int IntKind.i64 a, Value.int IntKind.i64 b] 51) := ⟨_, rfl⟩
          have d1 : W0.cell? ⟨wr.heap.size, 1, none⟩ = some (.int .i64 a) := by rw [hW0]; simp [World.cell?_alloc_new]
          have d2 : W0.cell? ⟨wr.heap.size, 2, none⟩ = some (.int .i64 b) := by rw [hW0]; simp [World.cell?_alloc_new]
          have hbW : Below wr.heap.size wr W0 := by rw [hW0]; exact (Below.refl _ _).alloc (Nat.le_refl _) _
          clear ca cb cc
          rw [← hW0]
          clear hW0
          refine (take_any w.heap.size g c1 bs hbl a b (b - a == 1) W0 (ownsRow_ext HO.out hbW)).mono ?_
          rintro e w2 ⟨rfl, hown2, hgr⟩
          have e1 := hgr.cell d1 (by simp; omega)
          have e2 := hgr.cell d2 (by simp; omega)
          have HO2 := Lib.hid hown2
          have HB2 := Lib.hid (below_own (n := w.heap.size) (below_trans HB.out hbW) hgr hg rfl)
          clear hown2 hgr d1 d2 hbW
          cases hok : takeOk bs a b (b - a == 1)
          · clear hok
            go_wp2_with fail
            go_ret2
            exact ⟨g, c1, _, false, rfl, (takeF_length _ _ _ _).trans hbl, HO2.out, (fun h => by cases h), HB2.out⟩
          · have HN := Lib.hid (show refB zeros (sts.take (k + 1)) = some (takeF bs a b (b - a == 1)) by rw [HSN.out]; simp [refS, HSM.out, hok])
            clear hok
            go_wp2_with fail
            go_roundw
            case rel => exact ⟨k + 1, _, by omega, by go_num, (takeF_length _ _ _ _).trans hbl, HO2.out, Lib.hid HN.out, HB2.out⟩
            case measure => simp [intOf]; omega
        have ho0' : (o == 0) = false := by rw [beq_eq_false_iff_ne]; exact ho0
        have ho1' : (o == 1) = false := by rw [beq_eq_false_iff_ne]; exact ho1
        have ho2' : (o == 2) = false := by rw [beq_eq_false_iff_ne]; exact ho2
        have ho3' : (o == 3) = false := by rw [beq_eq_false_iff_ne]; exact ho3
        go_wp2_with fail
        go_ret2
        exact ⟨g, c1, _, false, rfl, hbl, ownsRow_ext HO.out ((Below.refl _ _).alloc (Nat.le_refl _) _), (fun h => by cases h), below_alloc' HB.out _⟩
      · have HNS := Lib.hid hsm
        clear hsm
        by_cases ho0 : o = 0
        · subst ho0
          go_wp2_with fail
          obtain ⟨W0, hW0⟩ : ∃ W0, W0 = wr.alloc (Obj.cells #[Value.int IntKind.i64 0, Value.int IntKind.i64 a, Value.int IntKind.i64 b] 51) := ⟨_, rfl⟩
          have d1 : W0.cell? ⟨wr.heap.size, 1, none⟩ = some (.int .i64 a) := by rw [hW0]; simp [World.cell?_alloc_new]
          have d2 : W0.cell? ⟨wr.heap.size, 2, none⟩ = some (.int .i64 b) := by rw [hW0]; simp [World.cell?_alloc_new]
          have hbW : Below wr.heap.size wr W0 := by rw [hW0]; exact (Below.refl _ _).alloc (Nat.le_refl _) _
          clear ca cb cc
          rw [← hW0]
          clear hW0
          refine (add_weak w.heap.size g c1 bs hbl a _ W0 (ownsRow_ext HO.out hbW)).mono ?_
          rintro e w2 ⟨ok, bs2, rfl, HPOS, hbl2, hown2, hgr⟩
          have e1 := hgr.cell d1 (by simp; omega)
          have e2 := hgr.cell d2 (by simp; omega)
          have HO2 := Lib.hid hown2
          have HB2 := Lib.hid (below_own (n := w.heap.size) (below_trans HB.out hbW) hgr hg rfl)
          clear hown2 hgr d1 d2 hbW
          replace HPOS := Lib.hid HPOS
          cases ok
          · go_wp2_with fail
            all_goals (go_ret2; exact ⟨g, c1, bs2, false, rfl, hbl2, HO2.out, (fun h => by cases h), HB2.out⟩)
          · have ha0 := HPOS.out rfl
            go_wp2_with fail
            all_goals first | (exfalso; have := HNS.out; omega) | (go_ret2; exact ⟨g, c1, bs2, false, rfl, hbl2, HO2.out, (fun h => by cases h), HB2.out⟩)
        by_cases ho1 : o = 1
        · subst ho1
          by_cases hb60 : b ≤ 60
          · go_wp2_with fail
            obtain ⟨W0, hW0⟩ : ∃ W0, W0 = wr.alloc (Obj.cells #[Value.int IntKind.i64 1, Value.int IntKind.i64 a, Value.int IntKind.i64 b] 51) := ⟨_, rfl⟩
            have d1 : W0.cell? ⟨wr.heap.size, 1, none⟩ = some (.int .i64 a) := by rw [hW0]; simp [World.cell?_alloc_new]
            have d2 : W0.cell? ⟨wr.heap.size, 2, none⟩ = some (.int .i64 b) := by rw [hW0]; simp [World.cell?_alloc_new]
            have hbW : Below wr.heap.size wr W0 := by rw [hW0]; exact (Below.refl _ _).alloc (Nat.le_refl _) _
            clear ca cb cc
            rw [← hW0]
            clear hW0
            refine (add_weak w.heap.size g c1 bs hbl a _ W0 (ownsRow_ext HO.out hbW)).mono ?_
            rintro e w2 ⟨ok, bs2, rfl, HPOS, hbl2, hown2, hgr⟩
            have e1 := hgr.cell d1 (by simp; omega)
            have e2 := hgr.cell d2 (by simp; omega)
            have HO2 := Lib.hid hown2
            have HB2 := Lib.hid (below_own (n := w.heap.size) (below_trans HB.out hbW) hgr hg rfl)
            clear hown2 hgr d1 d2 hbW
            replace HPOS := Lib.hid HPOS
            cases ok
            · go_wp2_with fail
              all_goals (go_ret2; exact ⟨g, c1, bs2, false, rfl, hbl2, HO2.out, (fun h => by cases h), HB2.out⟩)
            · have ha0 := HPOS.out rfl
              go_wp2_with fail
              all_goals first | (exfalso; have := HNS.out; omega) | (go_ret2; exact ⟨g, c1, bs2, false, rfl, hbl2, HO2.out, (fun h => by cases h), HB2.out⟩)
          · go_wp2_with fail
            all_goals first | (exfalso; have := HNS.out; omega) | (go_ret2; exact ⟨g, c1, _, false, rfl, hbl, ownsRow_ext HO.out ((Below.refl _ _).alloc (Nat.le_refl _) _), (fun h => by cases h), below_alloc' HB.out _⟩)
        by_cases ho2 : o = 2
        · subst ho2
          by_cases ha60 : a ≤ 60
          · go_wp2_with fail
            obtain ⟨W0, hW0⟩ : ∃ W0, W0 = wr.alloc (Obj.cells #[Value.int IntKind.i64 2, Value.int IntKind.i64 a, Value.int IntKind.i64 b] 51) := ⟨_, rfl⟩
            have d1 : W0.cell? ⟨wr.heap.size, 1, none⟩ = some (.int .i64 a) := by rw [hW0]; simp [World.cell?_alloc_new]
            have d2 : W0.cell? ⟨wr.heap.size, 2, none⟩ = some (.int .i64 b) := by rw [hW0]; simp [World.cell?_alloc_new]
            have hbW : Below wr.heap.size wr W0 := by rw [hW0]; exact (Below.refl _ _).alloc (Nat.le_refl _) _
            clear ca cb cc
            rw [← hW0]
            clear hW0
            refine (take_weak w.heap.size g c1 bs hbl a _ _ W0 (ownsRow_ext HO.out hbW)).mono ?_
            rintro e w2 ⟨ok, bs2, rfl, HPOS, hbl2, hown2, hgr⟩
            have e1 := hgr.cell d1 (by simp; omega)
            have e2 := hgr.cell d2 (by simp; omega)
            have HO2 := Lib.hid hown2
            have HB2 := Lib.hid (below_own (n := w.heap.size) (below_trans HB.out hbW) hgr hg rfl)
            clear hown2 hgr d1 d2 hbW
            replace HPOS := Lib.hid HPOS
            cases ok
            · go_wp2_with fail
              all_goals (go_ret2; exact ⟨g, c1, bs2, false, rfl, hbl2, HO2.out, (fun h => by cases h), HB2.out⟩)
            · have ha0 := HPOS.out rfl
              go_wp2_with fail
              all_goals first | (exfalso; have := HNS.out; omega) | (go_ret2; exact ⟨g, c1, bs2, false, rfl, hbl2, HO2.out, (fun h => by cases h), HB2.out⟩)
          · go_wp2_with fail
            all_goals first | (exfalso; have := HNS.out; omega) | (go_ret2; exact ⟨g, c1, _, false, rfl, hbl, ownsRow_ext HO.out ((Below.refl _ _).alloc (Nat.le_refl _) _), (fun h => by cases h), below_alloc' HB.out _⟩)
        by_cases ho3 : o = 3
        · subst ho3
          go_wp2_with fail
          obtain ⟨W0, hW0⟩ : ∃ W0, W0 = wr.alloc (Obj.cells #[Value.int IntKind.i64 3, Value.int IntKind.i64 a, Value.int IntKind.i64 b] 51) := ⟨_, rfl⟩
          have d1 : W0.cell? ⟨wr.heap.size, 1, none⟩ = some (.int .i64 a) := by rw [hW0]; simp [World.cell?_alloc_new]
          have d2 : W0.cell? ⟨wr.heap.size, 2, none⟩ = some (.int .i64 b) := by rw [hW0]; simp [World.cell?_alloc_new]
          have hbW : Below wr.heap.size wr W0 := by rw [hW0]; exact (Below.refl _ _).alloc (Nat.le_refl _) _
          clear ca cb cc
          rw [← hW0]
          clear hW0
          refine (take_weak w.heap.size g c1 bs hbl a b _ W0 (ownsRow_ext HO.out hbW)).mono ?_
          rintro e w2 ⟨ok, bs2, rfl, HPOS, hbl2, hown2, hgr⟩
          have e1 := hgr.cell d1 (by simp; omega)
          have e2 := hgr.cell d2 (by simp; omega)
          have HO2 := Lib.hid hown2
          have HB2 := Lib.hid (below_own (n := w.heap.size) (below_trans HB.out hbW) hgr hg rfl)
          clear hown2 hgr d1 d2 hbW
          replace HPOS := Lib.hid HPOS
          cases ok
          · go_wp2_with fail
            all_goals (go_ret2; exact ⟨g, c1, bs2, false, rfl, hbl2, HO2.out, (fun h => by cases h), HB2.out⟩)
          · have ha0 := HPOS.out rfl
            go_wp2_with fail
            all_goals first | (exfalso; have := HNS.out; omega) | (go_ret2; exact ⟨g, c1, bs2, false, rfl, hbl2, HO2.out, (fun h => by cases h), HB2.out⟩)
        have ho0' : (o == 0) = false := by rw [beq_eq_false_iff_ne]; exact ho0
        have ho1' : (o == 1) = false := by rw [beq_eq_false_iff_ne]; exact ho1
        have ho2' : (o == 2) = false := by rw [beq_eq_false_iff_ne]; exact ho2
        have ho3' : (o == 3) = false := by rw [beq_eq_false_iff_ne]; exact ho3
        go_wp2_with fail
        all_goals first | (exfalso; have := HNS.out; omega) | (go_ret2; exact ⟨g, c1, _, false, rfl, hbl, ownsRow_ext HO.out ((Below.refl _ _).alloc (Nat.le_refl _) _), (fun h => by cases h), below_alloc' HB.out _⟩)
    · have hkn : k = sts.length := by omega
      have HRR := Lib.hid (show refB zeros sts = some bs by have := HREF.out; rw [hkn, List.take_length] at this; exact this)
      clear hkn HREF
      go_wp2_with fail
      go_ret2
      exact ⟨g, c1, bs, _, rfl, hbl, hown, fun h => ⟨HRR.out, by simp at h; omega⟩, hb⟩
end Go.Proofs.Ytckdcceglmlinaa
