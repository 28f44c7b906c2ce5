/- The walks of the reference's sets, kept as a list of truth values: the empty one, and its ranges. Condition: the bound on the length. -/
import Derived.Test.YtckdcceglmlinaaSmall
namespace Go.Proofs.Ytckdcceglmlinaa
open Go.RowKit
set_option linter.unusedSimpArgs false

def bls (bs : List Bool) : List Value := bs.map Value.bool
theorem bls_at {bs : List Bool} {k : Nat} {u : Value} (h : (bls bs)[k]? = some u) : ∃ b, bs[k]? = some b ∧ u = .bool b := by
  simp only [bls, List.getElem?_map, Option.map_eq_some_iff] at h
  obtain ⟨v, h1, h2⟩ := h
  exact ⟨v, h1, h2.symm⟩
theorem bls_length (bs : List Bool) : (bls bs).length = bs.length := by simp [bls]

theorem flat_set_last (pre : List Rg) (p q x : Int) : (flat (pre ++ [(p, q)])).set (pre.length * 2 + 1) (.int .i64 x) = flat (pre ++ [(p, x)]) := by
  rw [flat_append, flat_append, List.set_append_right _ _ (by rw [flat_length]; omega), flat_length]
  rw [show pre.length * 2 + 1 - pre.length * 2 = 1 by omega]; rfl
/-- a number more, behind all -/
def pushR (out : List Rg) (i : Int) : List Rg := match out.getLast? with
  | some r => if r.2 = i then out.dropLast ++ [(r.1, i + 1)] else out ++ [(i, i + 1)]
  | none => out ++ [(i, i + 1)]
/-- the ranges of the first k -/
def rg (bs : List Bool) : Nat → List Rg
  | 0 => []
  | k + 1 => if bs[k]? = some true then pushR (rg bs k) k else rg bs k
def rangesF (bs : List Bool) : List Rg := rg bs bs.length
theorem pushR_len (out : List Rg) (i : Int) : (pushR out i).length ≤ out.length + 1 := by
  unfold pushR
  split
  · split
    · simp
    · simp
  · simp
theorem rg_len (bs : List Bool) (k : Nat) : (rg bs k).length ≤ k := by
  induction k with
  | zero => simp [rg]
  | succ k ih =>
    unfold rg
    split
    · have := pushR_len (rg bs k) k; omega
    · omega
theorem info4 : (Try.prog.info? 4).map (fun i => (i.zero, i.size, i.bytes)) = some (some (.bool false), 1, 1) := by kernel_rfl

def zeros : List Bool := List.replicate 62 false
theorem zeros_row : (madeCells (Value.bool false).cells (62 * 1)).toList = bls zeros := by
  rw [show (Value.bool false).cells = #[Value.bool false] from rfl, toList_madeCells_one]
  simp [bls, zeros]
theorem set_any (w : World) : Calls Try.prog 30 #[] w (OwnPost 4 1 62 (bls zeros) w) := by
  obtain ⟨i0, hi0, hz0, hz1, hz2⟩ := info_parts info4
  obtain ⟨w1, hr, hown, hgr⟩ := run_makeSlice_full (P := Try.prog) w w.heap.size 45 4 i0 (.bool false) 1 Try.underlying45 hi0 hz0 hz1 .i64 .i64 62 (by decide) (by rw [hz2]; decide) (by simp [maxLen]) (Nat.le_refl _)
  rw [zeros_row] at hown
  have hb : Below w.heap.size w w1 := ⟨hgr.os, hgr.tape, hgr.output, hgr.size, fun k hk => hgr.block k hk (by simp)⟩
  have hr' : (Instr.makeSlice 45 (.int .i64 62) (.int .i64 62)).run Try.prog w = .ok (.slice (some ⟨w.heap.size, 0, none⟩) 62 62) w1 := hr
  clear hr hgr hz0 hz1 hz2 hi0
  go_enter Try.func30, Try.ntmps30
  go_wp2
  go_ret
  exact ⟨_, _, rfl, hown, hb⟩

set_option maxHeartbeats 1600000 in
theorem ranges_any (A : Option Addr) (c : Nat) (bs : List Bool) (w : World) (h : Reads w w.heap.size 1 A bs.length (bls bs)) (hm : bs.length ≤ 100) :
    Calls Try.prog 24 #[.slice A bs.length c] w (OwnPost 31 2 (rangesF bs).length (flat (rangesF bs)) w) := by
  have H2 := Lib.hid h
  clear h
  obtain ⟨i0, hi0, hz0, hz1, hz2⟩ := info_parts info31
  go_enter Try.func24, Try.ntmps24
  go_wp2_with fail
  go_loopw [3, 9] (fun o i wr => ∃ k : Nat, k ≤ bs.length ∧ i = .int .i64 k ∧ wr.ownsRow w.heap.size 31 2 o (rg bs k).length (flat (rg bs k)) ∧ Below w.heap.size w wr) (fun _ i _ => bs.length - (intOf i).toNat)
  case atStart => exact ⟨0, Nat.zero_le _, rfl, World.ownsRow_made w #[] 0 (Nat.le_refl _) (by simp [maxLen]) rfl, (Below.refl _ _).alloc (Nat.le_refl _) _⟩
  case round =>
    obtain ⟨k, hk, rfl, hown, hb⟩ := hrel
    by_cases hlt : k < bs.length
    · obtain ⟨b, off, u, rfl, hbb, hu, hc⟩ := (H2.out.below hb).at1 hlt
      obtain ⟨x, hx, rfl⟩ := bls_at hu
      clear hu
      cases x
      · have HS := Lib.hid (show rg bs (k + 1) = rg bs k by simp [rg, hx])
        have HO := Lib.hid hown
        have HB := Lib.hid hb
        clear hown hb hx
        go_wp2_with fail
        go_roundw
        case rel => exact ⟨k + 1, by omega, by go_num, by rw [HS.out]; exact HO.out, HB.out⟩
        case measure => simp [intOf]; omega
      · have HS := Lib.hid (show rg bs (k + 1) = pushR (rg bs k) k by simp [rg, hx])
        have hlen := rg_len bs k
        clear hx
        generalize rg bs k = out at *
        rcases List.eq_nil_or_concat out with rfl | ⟨pre, r, rfl⟩
        · replace HS := Lib.hid (show rg bs (k + 1) = [((k : Int), (k : Int) + 1)] by rw [HS.out]; rfl)
          simp only [List.length_nil] at hown hlen
          obtain ⟨A1, c1, rfl, _⟩ := own_slice hown
          go_wp2_with (first
            | (at_builtin
               go_must (refine wpList_append_bel rfl (.tmp 38) (.tmp 43) _ rfl w w.heap.size 31 i0 _ 2 16 Try.underlying23 hi0 hz0 hz1 hz2 rfl (by omega) _ 0 (flat []) rfl (hown.alloc _) _ _ 1 1 _ rfl (reads_new (by simp) rfl) (by simp [Value.oneCell']) (by omega) (by omega) (hb.alloc hb.size _) (by simp; have := hb.size; omega) ?_)
               intro v1 w1 hown1 hb1 _ _))
          have hown2 : w1.ownsRow w.heap.size 31 2 v1 (rg bs (k + 1)).length (flat (rg bs (k + 1))) := by rw [HS.out]; simpa [flat, flat_append] using hown1
          clear hown1 hown hb hc
          go_wp2_with fail
          go_roundw
          case rel => exact ⟨k + 1, by omega, by go_num, hown2, hb1⟩
          case measure => simp [intOf]; omega
        · simp only [List.concat_eq_append] at *
          have hl1 : (pre ++ [r]).length = pre.length + 1 := by simp
          rw [hl1] at hown hlen
          obtain ⟨g1, cap1, rfl, hbg, hgl⟩ := hown.form (by omega)
          obtain ⟨f1, f2⟩ := flat_at (L := pre ++ [r]) (k := pre.length) (r := r) (by simp)
          have ce : wr.cell? ⟨g1, pre.length * 2 + 1, none⟩ = some (.int .i64 r.2) := by rw [hown.cellAt _ (by omega), f2]
          have fr : wr.frozen? ⟨g1, pre.length * 2 + 1, none⟩ = false := hown.frozenAt _
          have hst := hown.stored (pre.length * 2 + 1) (.int .i64 ((k : Int) + 1))
          clear f1 f2
          have hn0 : (0 : Int) < ((pre.length + 1 : Nat) : Int) := by omega
          obtain ⟨p, q⟩ := r
          simp only at ce
          by_cases hq : q = (k : Int)
          · subst hq
            replace HS := Lib.hid (show rg bs (k + 1) = pre ++ [(p, (k : Int) + 1)] by rw [HS.out]; simp [pushR])
            have hown2 : (wr.setCell ⟨g1, pre.length * 2 + 1, none⟩ (.int .i64 ((k : Int) + 1))).ownsRow w.heap.size 31 2 (.slice (some ⟨g1, 0, none⟩) (pre.length + 1) cap1) (rg bs (k + 1)).length (flat (rg bs (k + 1))) := by
              have h1 := hst.1
              rw [flat_set_last] at h1
              rw [HS.out]; simpa using h1
            have hb1 := hb.setCell (p := ⟨g1, pre.length * 2 + 1, none⟩) hbg (.int .i64 ((k : Int) + 1))
            clear hst hown hb
            go_wp2_with fail
            go_roundw
            case rel => exact ⟨k + 1, by omega, by go_num, hown2, hb1⟩
            case measure => simp [intOf]; omega
          · have hq' : (q == (k : Int)) = false := by rw [beq_eq_false_iff_ne]; exact hq
            replace HS := Lib.hid (show rg bs (k + 1) = pre ++ [(p, q)] ++ [((k : Int), (k : Int) + 1)] by rw [HS.out]; simp [pushR, hq])
            clear hq hst
            go_wp2_with (first
              | (at_builtin
                 go_must (refine wpList_append_bel rfl (.tmp 38) (.tmp 43) _ rfl w w.heap.size 31 i0 _ 2 16 Try.underlying23 hi0 hz0 hz1 hz2 rfl (by omega) _ (pre.length + 1) (flat (pre ++ [(p, q)])) rfl (hown.alloc _) _ _ 1 1 _ rfl (reads_new (by simp) rfl) (by simp [Value.oneCell']) (by omega) (by omega) (hb.alloc hb.size _) (by simp; have := hb.size; omega) ?_)
                 intro v1 w1 hown1 hb1 _ _))
            have hown2 : w1.ownsRow w.heap.size 31 2 v1 (rg bs (k + 1)).length (flat (rg bs (k + 1))) := by rw [HS.out]; simpa [flat, flat_append] using hown1
            clear hown1 hown hb hc
            go_wp2_with fail
            go_roundw
            case rel => exact ⟨k + 1, by omega, by go_num, hown2, hb1⟩
            case measure => simp [intOf]; omega
    · go_wp2_with fail
      go_ret
      have hkn : k = bs.length := by omega
      subst hkn
      obtain ⟨A', c', rfl, _⟩ := own_slice hown
      exact ⟨_, _, rfl, hown, hb⟩
end Go.Proofs.Ytckdcceglmlinaa
