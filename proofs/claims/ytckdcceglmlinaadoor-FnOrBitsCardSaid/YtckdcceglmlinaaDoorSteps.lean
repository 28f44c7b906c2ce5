/- The walks of the copy of the steps, of the reference's bits, and of the steps that only add. Condition: the bound on the lengths. -/
import Derived.Test.YtckdcceglmlinaaDoorLib2
import Derived.Test.YtckdcceglmlinaaDoorLaw
import Derived.Deep.DeepMust
namespace Go.Proofs.YtckdcceglmlinaaDoor
open Go.RowKit
set_option linter.unusedSimpArgs false

theorem info38 : (Tryd.prog.info? 38).map (fun i => (i.zero, i.size, i.bytes)) = some (some (.agg #[.int .i64 0, .int .i64 0, .int .i64 0]), 3, 24) := by kernel_rfl
theorem info3 : (Tryd.prog.info? 3).map (fun i => (i.zero, i.size, i.bytes)) = some (some (.int .i64 0), 1, 8) := by kernel_rfl
theorem info4 : (Tryd.prog.info? 4).map (fun i => (i.zero, i.size, i.bytes)) = some (some (.bool false), 1, 1) := by kernel_rfl
def OwnPost (e : TypeId) (size n : Nat) (xs : List Value) (w : World) (en : Ending) (w' : World) : Prop := ∃ A c, en = .returned (.slice A n c) ∧ w'.ownsRow w.heap.size e size (.slice A n c) n xs ∧ Below w.heap.size w w'
theorem below_alloc2 {B : Nat} {a w : World} (h : Below B a w) (hB : B ≤ w.heap.size) (o o' : Obj) : Below B a ((w.alloc o).alloc o') := (h.alloc hB o).alloc (by simp; omega) o'
def bls (bs : List Bool) : List Value := bs.map Value.bool
theorem bls_at {bs : List Bool} {k : Nat} {u : Value} (h : (bls bs)[k]? = some u) : ∃ b, bs[k]? = some b ∧ u = .bool b := by
  simp only [bls, List.getElem?_map, Option.map_eq_some_iff] at h
  obtain ⟨v, h1, h2⟩ := h
  exact ⟨v, h1, h2.symm⟩
theorem bls_length (bs : List Bool) : (bls bs).length = bs.length := by simp [bls]
theorem bls_set (bs : List Bool) (k : Nat) (v : Bool) : (bls bs).set k (.bool v) = bls (bs.set k v) := by simp [bls, List.map_set]
def natI (l : List Nat) : List Value := l.map fun (n : Nat) => Value.int .i64 (n : Int)
theorem natI_length (l : List Nat) : (natI l).length = l.length := by simp [natI]
theorem natI_at {l : List Nat} {k : Nat} {u : Value} (h : (natI l)[k]? = some u) : ∃ n : Nat, l[k]? = some n ∧ u = .int .i64 (n : Int) := by
  simp only [natI, List.getElem?_map, Option.map_eq_some_iff] at h
  obtain ⟨v, h1, h2⟩ := h
  exact ⟨v, h1, h2.symm⟩
theorem natI_snoc (l : List Nat) (n : Nat) : natI (l ++ [n]) = natI l ++ [.int .i64 (n : Int)] := by simp [natI]

structure St where
  op : Int
  a : Int
  b : Int
def flat3 : List St → List Value
  | [] => []
  | r :: t => .int .i64 r.op :: .int .i64 r.a :: .int .i64 r.b :: flat3 t
theorem flat3_length (L : List St) : (flat3 L).length = L.length * 3 := by
  induction L with
  | nil => rfl
  | cons r t ih => simp [flat3, ih]; omega
theorem flat3_append (L M : List St) : flat3 (L ++ M) = flat3 L ++ flat3 M := by
  induction L with
  | nil => rfl
  | cons r t ih => simp [flat3, ih]
theorem flat3_at {L : List St} {k : Nat} {r : St} (h : L[k]? = some r) : (flat3 L)[k * 3]? = some (.int .i64 r.op) ∧ (flat3 L)[k * 3 + 1]? = some (.int .i64 r.a) ∧ (flat3 L)[k * 3 + 2]? = some (.int .i64 r.b) := by
  induction L generalizing k with
  | nil => simp at h
  | cons a t ih =>
    cases k with
    | zero => simp at h; subst h; exact ⟨rfl, rfl, rfl⟩
    | succ k =>
      have := ih (k := k) (by simpa using h)
      rw [show (k + 1) * 3 = k * 3 + 1 + 1 + 1 by omega]
      exact this
theorem flat3_take_succ {L : List St} {k : Nat} {r : St} (hk : L[k]? = some r) : flat3 (L.take (k + 1)) = flat3 (L.take k) ++ [.int .i64 r.op, .int .i64 r.a, .int .i64 r.b] := by
  rw [take_snoc' _ _ _ hk, flat3_append]; rfl
theorem Reads.st {w : World} {B : Nat} {A : Option Addr} {L : List St} {k : Nat} {r : St} (h : Reads w B 3 A L.length (flat3 L)) (hk : L[k]? = some r) :
    ∃ b off, A = some ⟨b, off, none⟩ ∧ b < B ∧ w.cell? ⟨b, off + k * 3, none⟩ = some (.int .i64 r.op) ∧ w.cell? ⟨b, off + k * 3 + 1, none⟩ = some (.int .i64 r.a) ∧ w.cell? ⟨b, off + k * 3 + 2, none⟩ = some (.int .i64 r.b) := by
  have hlt : k < L.length := (List.getElem?_eq_some_iff.1 hk).1
  obtain ⟨b, off, e, hb, hc⟩ := h.lit (by omega) (by omega)
  obtain ⟨h1, h2, h3⟩ := flat3_at hk
  exact ⟨b, off, e, hb, hc _ _ h1, hc _ _ h2, hc _ _ h3⟩


set_option maxHeartbeats 800000 in
theorem steps_any (A : Option Addr) (c : Nat) (L : List St) (w : World) (h : Reads w w.heap.size 3 A L.length (flat3 L)) (hm : L.length ≤ 2147483647) : Calls Tryd.prog 6 #[.slice A L.length c] w (OwnPost 38 3 L.length (flat3 L) w) := by
  have H2 := Lib.hid h
  clear h
  obtain ⟨i0, hi0, hz0, hz1, hz2⟩ := info_parts info38
  go_enter Tryd.func6, Tryd.ntmps6
  go_wp2_with fail
  go_loopw [3, 9] (fun o i wr => ∃ k : Nat, k ≤ L.length ∧ i = .int .i64 k ∧ wr.ownsRow w.heap.size 38 3 o k (flat3 (L.take k)) ∧ Below w.heap.size w wr) (fun _ i _ => L.length - (intOf i).toNat)
  case atStart => exact ⟨0, Nat.zero_le _, rfl, World.ownsRow_made w #[] 0 (Nat.le_refl _) (by simp [maxLen]) rfl, (Below.refl _ _).alloc (Nat.le_refl _) _⟩
  case round =>
    obtain ⟨k, hk, rfl, hown, hb⟩ := hrel
    by_cases hlt : k < L.length
    · have hkr := List.getElem?_eq_getElem hlt
      generalize L[k] = r at *
      obtain ⟨b, off, rfl, hbb, cu, cv, cx⟩ := (H2.out.ext hb).st hkr
      have HT := Lib.hid (flat3_take_succ hkr)
      clear hkr
      go_wp2_with (first
        | (at_builtin
           go_must (refine wpList_append_bel rfl (.tmp 13) (.tmp 21) _ rfl w w.heap.size 38 i0 _ 3 24 Tryd.underlying26 hi0 hz0 hz1 hz2 rfl (by omega) _ k (flat3 (L.take k)) rfl ((hown.alloc _).alloc _) _ _ 1 1 _ rfl (reads_new (by simp) rfl) (by simp [Value.oneCell']) (by omega) (by omega) (below_alloc2 hb hb.size _ _) (by simp; have := hb.size; omega) ?_)
           intro v1 w1 hown1 hb1 _ _))
      have hown2 : w1.ownsRow w.heap.size 38 3 v1 (k + 1) (flat3 (L.take (k + 1))) := by rw [HT.out]; exact hown1
      clear hown1 hown hb cu cv cx
      go_wp2_with fail
      go_roundw
      case rel => exact ⟨k + 1, by omega, by go_num, hown2, hb1⟩
      case measure => simp [intOf]; omega
    · go_wp2_with fail
      go_ret
      have hkn : k = L.length := by omega
      subst hkn
      rw [List.take_length] at hown
      obtain ⟨A', c', rfl, _⟩ := own_slice hown
      exact ⟨_, _, rfl, hown, hb⟩


/-! ### the reference -/
def z400 : List Bool := List.replicate 400 false
theorem z400_row : (madeCells (Value.bool false).cells (400 * 1)).toList = bls z400 := by
  rw [show (Value.bool false).cells = #[Value.bool false] from rfl, toList_madeCells_one]
  unfold bls z400
  rw [List.map_replicate]
/-- a step of the reference -/
def refS (bs : List Bool) (s : St) : Option (List Bool) :=
  if 0 ≤ s.a ∧ s.a < 300 ∧ (s.op = 0 ∨ s.op = 2) then some (bs.set s.a.toNat (decide (s.op = 0))) else none
def refB (bs : List Bool) : List St → Option (List Bool)
  | [] => some bs
  | s :: r => match refS bs s with
    | some bs' => refB bs' r
    | none => none
theorem refB_snoc {bs bs' : List Bool} {l : List St} (h : refB bs l = some bs') (s : St) : refB bs (l ++ [s]) = refS bs' s := by
  induction l generalizing bs with
  | nil => simp only [refB, Option.some.injEq] at h; subst h; simp only [List.nil_append, refB]; cases refS bs s <;> rfl
  | cons a r ih =>
    simp only [List.cons_append, refB] at h ⊢
    cases hs : refS bs a with
    | none => rw [hs] at h; cases h
    | some b1 => rw [hs] at h; exact ih h
theorem refS_len {bs bs' : List Bool} {s : St} (h : refS bs s = some bs') : bs'.length = bs.length := by
  unfold refS at h
  split at h
  · cases h; simp
  · cases h
theorem refB_len {bs bs' : List Bool} {l : List St} (h : refB bs l = some bs') : bs'.length = bs.length := by
  induction l generalizing bs with
  | nil => cases h; rfl
  | cons a r ih =>
    simp only [refB] at h
    cases hs : refS bs a with
    | none => rw [hs] at h; cases h
    | some b1 => rw [hs] at h; exact (ih h).trans (refS_len hs)

def BitsPost (sts : List St) (w : World) (e : Ending) (w' : World) : Prop := ∃ A c L ok, e = .returned (.tuple #[.slice A L.length c, .bool ok]) ∧ L.length ≤ 400 ∧ Reads w' w'.heap.size 1 A L.length (natI L) ∧
  (ok = true → ∃ bs, refB z400 sts = some bs ∧ bs.length = 400 ∧ L = trues bs ∧ sts.length ≤ 16) ∧ Below w.heap.size w w'

set_option maxRecDepth 10000 in
set_option maxHeartbeats 4000000 in
theorem specBits_any (A : Option Addr) (c : Nat) (sts : List St) (w : World) (h : Reads w w.heap.size 3 A sts.length (flat3 sts)) (hm : sts.length ≤ 2147483647) :
    Calls Tryd.prog 5 #[.slice A sts.length c] w (BitsPost sts w) := by
  have H3 := Lib.hid h
  clear h
  obtain ⟨i0, hi0, hz0, hz1, hz2⟩ := info_parts info4
  obtain ⟨i1, hi1, hy0, hy1, hy2⟩ := info_parts info3
  obtain ⟨w1, hr, hown, hgr⟩ := run_makeSlice_full (P := Tryd.prog) w w.heap.size 36 4 i0 (.bool false) 1 Tryd.underlying36 hi0 hz0 hz1 .i64 .i64 400 (by decide) (by rw [hz2]; decide) (by simp [maxLen]) (Nat.le_refl _)
  rw [z400_row] at hown
  have hb : Below w.heap.size w w1 := ⟨hgr.os, hgr.tape, hgr.output, hgr.size, fun k hk => hgr.block k hk (by simp)⟩
  have hr' : (Instr.makeSlice 36 (.int .i64 400) (.int .i64 400)).run Tryd.prog w = .ok (.slice (some ⟨w.heap.size, 0, none⟩) 400 400) w1 := hr
  clear hr hgr hz0 hz1 hz2 hi0
  have HO1 := Lib.hid hown
  have HB1 := Lib.hid hb
  clear hown hb
  go_enter Tryd.func5, Tryd.ntmps5
  go_wp2_with fail
  go_loopw [13] (fun i wr => ∃ (k : Nat) (bs : List Bool), k ≤ sts.length ∧ i = .int .i64 k ∧ bs.length = 400 ∧ wr.ownsRow w.heap.size 4 1 (.slice (some ⟨w.heap.size, 0, none⟩) 400 400) 400 (bls bs) ∧ Hid (refB z400 (sts.take k) = some bs) ∧ Below w.heap.size w wr) (fun i _ => sts.length - (intOf i).toNat)
  case atStart => exact ⟨0, z400, Nat.zero_le _, rfl, by simp [z400], HO1.out, Lib.hid rfl, HB1.out⟩
  case round =>
    clear hr' HO1 HB1
    obtain ⟨k, bs, hk, rfl, hbl, hown, HREF, hb⟩ := hrel
    by_cases hlt : k < sts.length
    · have hks := List.getElem?_eq_getElem hlt
      generalize sts[k] = st at *
      obtain ⟨b1, off, rfl, _, ca, cb, cc⟩ := (H3.out.ext hb).st hks
      have HST := Lib.hid (take_snoc' _ _ _ hks)
      have hgl : w.heap.size < wr.heap.size := (hown.lt _ rfl).2
      obtain ⟨o, a, b⟩ := st
      simp only at ca cb cc
      have HSN := Lib.hid (show refB z400 (sts.take (k + 1)) = refS bs ⟨o, a, b⟩ by rw [HST.out]; exact refB_snoc HREF.out _)
      clear hks
      have out : ∀ W : World, Below w.heap.size w W → BitsPost sts w (.returned (.tuple #[.slice none 0 0, .bool false])) W := fun W h => ⟨none, 0, [], false, rfl, by simp, Reads.none_, (fun h => by cases h), h⟩
      by_cases ha0 : 0 ≤ a
      · by_cases ha1 : a < 300
        · obtain ⟨v, rfl⟩ := Int.eq_ofNat_of_zero_le ha0
          have hv : v < 300 := by omega
          have HW : Hid (∀ x : Value, Below w.heap.size w ((wr.setCell ⟨w.heap.size, v, none⟩ x).alloc (.cells #[.int .i64 o, .int .i64 (v : Int), .int .i64 b] 38))) := Lib.hid fun x => (hb.setCell (p := ⟨w.heap.size, v, none⟩) (Nat.le_refl _) x).alloc (by simpa [World.setCell] using hb.size) _
          have hcl := hown.cellAt v (by omega)
          rw [List.getElem?_eq_getElem (by rw [bls_length]; omega)] at hcl
          have hfr := hown.frozenAt v
          have HS : Hid (∀ x : Bool, ((wr.setCell ⟨w.heap.size, v, none⟩ (.bool x)).alloc (.cells #[.int .i64 o, .int .i64 (v : Int), .int .i64 b] 38)).ownsRow w.heap.size 4 1 (.slice (some ⟨w.heap.size, 0, none⟩) 400 400) 400 (bls (bs.set v x))) := Lib.hid fun x => by
            have := (hown.stored v (.bool x)).1
            rw [bls_set] at this
            exact this.alloc _
          generalize (bls bs)[v]'(by rw [bls_length]; omega) = old at *
          have HB0 := Lib.hid (hb.alloc hb.size (.cells #[.int .i64 o, .int .i64 (v : Int), .int .i64 b] 38))
          clear hown hb ha0 ha1
          by_cases ho : o = 0
          · subst ho
            have HN := Lib.hid (show refB z400 (sts.take (k + 1)) = some (bs.set v true) by rw [HSN.out]; simp [refS]; omega)
            clear out
            go_wp2_with fail
            go_roundw
            case rel => exact ⟨k + 1, bs.set v true, by omega, by go_num, by simpa using hbl, HS.out true, HN, HW.out _⟩
            case measure => simp [intOf]; omega
          · by_cases ho2 : o = 2
            · subst ho2
              have HN := Lib.hid (show refB z400 (sts.take (k + 1)) = some (bs.set v false) by rw [HSN.out]; simp [refS]; omega)
              clear out
              go_wp2_with fail
              go_roundw
              case rel => exact ⟨k + 1, bs.set v false, by omega, by go_num, by simpa using hbl, HS.out false, HN, HW.out _⟩
              case measure => simp [intOf]; omega
            · have hq1 : (o != 0) = true := by simp [ho]
              have hq2 : (o != 2) = true := by simp [ho2]
              have hbw : Hid (BitsPost sts w (.returned (.tuple #[.slice none 0 0, .bool false])) (wr.alloc (.cells #[.int .i64 o, .int .i64 (v : Int), .int .i64 b] 38))) := Lib.hid (out _ HB0.out)
              clear out
              go_wp2_with fail
              go_ret2
              exact hbw.out
        · have HX := Lib.hid (out _ (hb.alloc hb.size (.cells #[.int .i64 o, .int .i64 a, .int .i64 b] 38)))
          clear out hown hb
          go_wp2_with fail
          go_ret2
          exact HX.out
      · have HX := Lib.hid (out _ (hb.alloc hb.size (.cells #[.int .i64 o, .int .i64 a, .int .i64 b] 38)))
        clear out hown hb
        go_wp2_with fail
        go_ret2
        exact HX.out
    · have hkn : k = sts.length := by omega
      have HRR := Lib.hid (show refB z400 sts = some bs by have := HREF.out; rw [hkn, List.take_length] at this; exact this)
      have HR := Lib.hid (Reads.of_own hown)
      have hgl : w.heap.size < wr.heap.size := (hown.lt _ rfl).2
      have HBW := Lib.hid hb
      clear hown hb HREF
      obtain ⟨V, rfl⟩ : ∃ V, V = wr := ⟨wr, rfl⟩
      go_wp2_with fail
      go_loopw [7, 46] (fun o i wr2 => ∃ k : Nat, k ≤ 400 ∧ i = .int .i64 k ∧ wr2.ownsRow V.heap.size 3 1 o (truesK bs k).length (natI (truesK bs k)) ∧ Below V.heap.size V wr2) (fun _ i _ => 400 - (intOf i).toNat)
      case atStart => exact ⟨0, Nat.zero_le _, rfl, World.ownsRow_made V #[] 0 (Nat.le_refl _) (by simp [maxLen]) rfl, (Below.refl _ _).alloc (Nat.le_refl _) _⟩
      case round =>
        obtain ⟨k2, hk2, rfl, hown, hb⟩ := hrel
        by_cases hlt2 : k2 < 400
        · obtain ⟨b2, off2, u, hA2, _, hu, hc⟩ := (HR.out.below hb).at1 hlt2
          cases hA2
          rw [Nat.zero_add] at hc
          obtain ⟨x, hx, rfl⟩ := bls_at hu
          have hT := truesK_succ bs k2
          rw [List.getD_eq_getElem?_getD, hx] at hT
          have hlen := truesK_len bs k2
          clear hu hx
          cases x
          · have HS := Lib.hid (show truesK bs (k2 + 1) = truesK bs k2 by simpa using hT)
            have HO := Lib.hid hown
            have HB := Lib.hid hb
            clear hown hb hT
            go_wp2_with fail
            go_roundw
            case rel => exact ⟨k2 + 1, by omega, by go_num, by rw [HS.out]; exact HO.out, HB.out⟩
            case measure => simp [intOf]; omega
          · have HS := Lib.hid (show truesK bs (k2 + 1) = truesK bs k2 ++ [k2] by simpa using hT)
            clear hT
            generalize truesK bs k2 = L at *
            go_wp2_with (first
              | (at_builtin
                 go_must (refine wpList_append_bel rfl (.tmp 52) (.tmp 54) _ rfl V V.heap.size 3 i1 _ 1 8 Tryd.underlying23 hi1 hy0 hy1 hy2 rfl (by omega) _ L.length (natI L) rfl (hown.alloc _) _ _ 1 1 _ rfl (reads_new (by simp) rfl) (by simp [Value.oneCell']) (by omega) (by omega) (hb.alloc hb.size _) (by simp; have := hb.size; omega) ?_)
                 intro v1 w1 hown1 hb1 _ _))
            have hown2 : w1.ownsRow V.heap.size 3 1 v1 (truesK bs (k2 + 1)).length (natI (truesK bs (k2 + 1))) := by rw [HS.out, natI_snoc, List.length_append]; exact hown1
            clear hown1 hown hb hc
            go_wp2_with fail
            go_roundw
            case rel => exact ⟨v1, .int .i64 (k2 : Int), .bool true, .int .i64 ((k2 : Int) + 1), ⟨k2 + 1, by omega, by go_num, hown2⟩, rfl, rfl, rfl, rfl⟩
            case measure => simp [intOf]; omega
        · obtain rfl : k2 = 400 := by omega
          have hE : truesK bs 400 = trues bs := by unfold truesK trues; rw [hbl]
          have hlen := truesK_len bs 400
          rw [hE] at hown hlen
          obtain ⟨A1, c1, rfl, hr1⟩ := own_slice hown
          have HX := Lib.hid (show ∀ ok : Bool, (ok = true → sts.length ≤ 16) → BitsPost sts w (.returned (.tuple #[.slice A1 (trues bs).length c1, .bool ok])) wr from
            fun ok hok => ⟨A1, c1, trues bs, ok, rfl, hlen, hr1, fun h => ⟨bs, HRR.out, hbl, rfl, hok h⟩, HBW.out.trans (hb.mono HBW.out.size)⟩)
          clear hown hb hr1 hE
          go_wp2_with fail
          go_ret2
          exact HX.out (decide ((sts.length : Int) ≤ 16)) (fun h => by have := of_decide_eq_true h; omega)
/-- steps that only add -/
def adds (l : List Nat) : List St := l.map fun (n : Nat) => (⟨0, (n : Int), 0⟩ : St)
theorem adds_take_succ {l : List Nat} {k n : Nat} (h : l[k]? = some n) : flat3 (adds (l.take (k + 1))) = flat3 (adds (l.take k)) ++ [.int .i64 0, .int .i64 (n : Int), .int .i64 0] := by
  rw [take_snoc' _ _ _ h]; unfold adds; rw [List.map_append, flat3_append]; rfl
set_option maxHeartbeats 1600000 in
theorem onlyAdds_any (A : Option Addr) (c : Nat) (l : List Nat) (w : World) (h : Reads w w.heap.size 1 A l.length (natI l)) (hm : l.length ≤ 400) : Calls Tryd.prog 9 #[.slice A l.length c] w (OwnPost 38 3 l.length (flat3 (adds l)) w) := by
  have H2 := Lib.hid h
  clear h
  obtain ⟨i0, hi0, hz0, hz1, hz2⟩ := info_parts info38
  go_enter Tryd.func9, Tryd.ntmps9
  go_wp2_with fail
  go_loopw [3, 9] (fun o i wr => ∃ k : Nat, k ≤ l.length ∧ i = .int .i64 k ∧ wr.ownsRow w.heap.size 38 3 o k (flat3 (adds (l.take k))) ∧ Below w.heap.size w wr) (fun _ i _ => l.length - (intOf i).toNat)
  case atStart => exact ⟨0, Nat.zero_le _, rfl, World.ownsRow_made w #[] 0 (Nat.le_refl _) (by simp [maxLen]) rfl, (Below.refl _ _).alloc (Nat.le_refl _) _⟩
  case round =>
    obtain ⟨k, hk, rfl, hown, hb⟩ := hrel
    by_cases hlt : k < l.length
    · obtain ⟨b, off, u, rfl, hbb, hu, hc⟩ := (H2.out.ext hb).at1 hlt
      obtain ⟨n, hn, rfl⟩ := natI_at hu
      have HT := Lib.hid (adds_take_succ hn)
      clear hu hn
      go_wp2_with (first
        | (at_builtin
           go_must (refine wpList_append_bel rfl (.tmp 13) (.tmp 16) _ rfl w w.heap.size 38 i0 _ 3 24 Tryd.underlying26 hi0 hz0 hz1 hz2 rfl (by omega) _ k (flat3 (adds (l.take k))) rfl (hown.alloc _) _ _ 1 1 _ rfl (reads_new (by simp) rfl) (by simp [Value.oneCell']) (by omega) (by omega) (hb.alloc hb.size _) (by simp; have := hb.size; omega) ?_)
           intro v1 w1 hown1 hb1 _ _))
      have hown2 : w1.ownsRow w.heap.size 38 3 v1 (k + 1) (flat3 (adds (l.take (k + 1)))) := by rw [HT.out]; exact hown1
      clear hown1 hown hb hc
      go_wp2_with fail
      go_roundw
      case rel => exact ⟨k + 1, by omega, by go_num, hown2, hb1⟩
      case measure => simp [intOf]; omega
    · go_wp2_with fail
      go_ret
      have hkn : k = l.length := by omega
      subst hkn
      rw [List.take_length] at hown
      obtain ⟨A', c', rfl, _⟩ := own_slice hown
      exact ⟨_, _, rfl, hown, hb⟩
end Go.Proofs.YtckdcceglmlinaaDoor
