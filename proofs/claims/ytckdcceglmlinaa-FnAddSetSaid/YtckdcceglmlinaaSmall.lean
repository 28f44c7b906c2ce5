/- The walks of the copies of ranges, of the count of their numbers, of the steps' copy, and of the making of a set. Condition: the bound on the lengths. -/
import Derived.Test.YtckdcceglmlinaaSame
import Derived.Deep.DeepMust
namespace Go.Proofs.Ytckdcceglmlinaa
open Go.RowKit
set_option linter.unusedSimpArgs false

theorem info60 : (Try.prog.info? 60).map (fun i => (i.zero, i.size, i.bytes)) = some (some (.agg #[.int .i64 0, .int .i64 0]), 2, 16) := by kernel_rfl
theorem info31 : (Try.prog.info? 31).map (fun i => (i.zero, i.size, i.bytes)) = some (some (.agg #[.int .i64 0, .int .i64 0]), 2, 16) := by kernel_rfl
theorem info68 : (Try.prog.info? 68).map (fun i => (i.zero, i.size, i.bytes)) = some (some (.agg #[.int .i64 0, .int .i64 0]), 2, 16) := by kernel_rfl
theorem info51 : (Try.prog.info? 51).map (fun i => (i.zero, i.size, i.bytes)) = some (some (.agg #[.int .i64 0, .int .i64 0, .int .i64 0]), 3, 24) := by kernel_rfl
def OwnPost (e : TypeId) (size n : Nat) (xs : List Value) (w : World) (en : Ending) (w' : World) : Prop := ∃ A c, en = .returned (.slice A n c) ∧ w'.ownsRow w.heap.size e size (.slice A n c) n xs ∧ Below w.heap.size w w'
theorem below_alloc2 {B : Nat} {a w : World} (h : Below B a w) (hB : B ≤ w.heap.size) (o o' : Obj) : Below B a ((w.alloc o).alloc o') := (h.alloc hB o).alloc (by simp; omega) o'
theorem flat_take_succ {L : List Rg} {k : Nat} {r : Rg} (hk : L[k]? = some r) : flat (L.take (k + 1)) = flat (L.take k) ++ [.int .i64 r.1, .int .i64 r.2] := by
  rw [take_snoc' _ _ _ hk, flat_append]; rfl

set_option maxHeartbeats 800000 in
theorem implRanges_any (g : Nat) (L : List Rg) (w : World) (h : SetR w g L) (hm : L.length ≤ 100) : Calls Try.prog 33 #[.pointer (some ⟨g, 0, none⟩)] w (OwnPost 60 2 L.length (flat L) w) := by
  obtain ⟨A, c, h1, h2⟩ := h
  have H1 := Lib.hid h1
  have H2 := Lib.hid h2
  clear h1 h2
  obtain ⟨i0, hi0, hz0, hz1, hz2⟩ := info_parts info60
  go_enter Try.func33, Try.ntmps33
  go_wp2_with fail
  refine (getIntervals_any g A L.length c _ (H1.out.alloc _)).mono ?_
  rintro e w' ⟨rfl, rfl⟩
  go_wp2_with fail
  go_loopw [3, 10] (fun o i wr => ∃ k : Nat, k ≤ L.length ∧ i = .int .i64 k ∧ wr.ownsRow w.heap.size 60 2 o k (flat (L.take k)) ∧ Below w.heap.size w wr) (fun _ i _ => L.length - (intOf i).toNat)
  case atStart => exact ⟨0, Nat.zero_le _, rfl, World.ownsRow_made w #[] 0 (Nat.le_refl _) (by simp [maxLen]) rfl, (Below.refl _ _).alloc (Nat.le_refl _) _⟩
  case round =>
    obtain ⟨k, hk, rfl, hown, hb⟩ := hrel
    by_cases hlt : k < L.length
    · have hkr := List.getElem?_eq_getElem hlt
      generalize L[k] = r at *
      obtain ⟨b, off, rfl, hbb, cu, cv⟩ := (H2.out.ext hb).rg hkr
      have HT := Lib.hid (flat_take_succ hkr)
      clear hkr
      go_wp2_with (first
        | (at_builtin
           go_must (refine wpList_append_bel rfl (.tmp 14) (.tmp 20) _ rfl w w.heap.size 60 i0 _ 2 16 Try.underlying38 hi0 hz0 hz1 hz2 rfl (by omega) _ k (flat (L.take k)) rfl ((hown.alloc _).alloc _) _ _ 1 1 _ rfl (reads_new (by simp) rfl) (by simp [Value.oneCell']) (by omega) (by omega) (below_alloc2 hb hb.size _ _) (by simp; have := hb.size; omega) ?_)
           intro v1 w1 hown1 hb1 _ _))
      have hown2 : w1.ownsRow w.heap.size 60 2 v1 (k + 1) (flat (L.take (k + 1))) := by rw [HT.out]; exact hown1
      clear hown1 hown hb cu cv
      go_wp2_with fail
      go_roundw
      case rel => exact ⟨k + 1, by omega, by go_num, hown2, hb1⟩
      case measure => simp [intOf]; omega
    · go_wp2_with fail
      go_ret
      have hkn : k = L.length := by omega
      subst hkn
      rw [List.take_length] at hown
      obtain ⟨A', c', rfl, _⟩ := own_slice hown
      exact ⟨_, _, rfl, hown, hb⟩

set_option maxHeartbeats 800000 in
theorem lawsRanges_any (A : Option Addr) (c : Nat) (L : List Rg) (w : World) (h : Reads w w.heap.size 2 A L.length (flat L)) (hm : L.length ≤ 100) : Calls Try.prog 18 #[.slice A L.length c] w (OwnPost 31 2 L.length (flat L) w) := by
  have H2 := Lib.hid h
  clear h
  obtain ⟨i0, hi0, hz0, hz1, hz2⟩ := info_parts info31
  go_enter Try.func18, Try.ntmps18
  go_wp2_with fail
  go_loopw [3, 9] (fun o i wr => ∃ k : Nat, k ≤ L.length ∧ i = .int .i64 k ∧ wr.ownsRow w.heap.size 31 2 o k (flat (L.take k)) ∧ Below w.heap.size w wr) (fun _ i _ => L.length - (intOf i).toNat)
  case atStart => exact ⟨0, Nat.zero_le _, rfl, World.ownsRow_made w #[] 0 (Nat.le_refl _) (by simp [maxLen]) rfl, (Below.refl _ _).alloc (Nat.le_refl _) _⟩
  case round =>
    obtain ⟨k, hk, rfl, hown, hb⟩ := hrel
    by_cases hlt : k < L.length
    · have hkr := List.getElem?_eq_getElem hlt
      generalize L[k] = r at *
      obtain ⟨b, off, rfl, hbb, cu, cv⟩ := (H2.out.ext hb).rg hkr
      have HT := Lib.hid (flat_take_succ hkr)
      clear hkr
      go_wp2_with (first
        | (at_builtin
           go_must (refine wpList_append_bel rfl (.tmp 13) (.tmp 19) _ rfl w w.heap.size 31 i0 _ 2 16 Try.underlying23 hi0 hz0 hz1 hz2 rfl (by omega) _ k (flat (L.take k)) rfl ((hown.alloc _).alloc _) _ _ 1 1 _ rfl (reads_new (by simp) rfl) (by simp [Value.oneCell']) (by omega) (by omega) (below_alloc2 hb hb.size _ _) (by simp; have := hb.size; omega) ?_)
           intro v1 w1 hown1 hb1 _ _))
      have hown2 : w1.ownsRow w.heap.size 31 2 v1 (k + 1) (flat (L.take (k + 1))) := by rw [HT.out]; exact hown1
      clear hown1 hown hb cu cv
      go_wp2_with fail
      go_roundw
      case rel => exact ⟨k + 1, by omega, by go_num, hown2, hb1⟩
      case measure => simp [intOf]; omega
    · go_wp2_with fail
      go_ret
      have hkn : k = L.length := by omega
      subst hkn
      rw [List.take_length] at hown
      obtain ⟨A', c', rfl, _⟩ := own_slice hown
      exact ⟨_, _, rfl, hown, hb⟩

set_option maxHeartbeats 800000 in
theorem count_any (A : Option Addr) (c : Nat) (L : List Rg) (w : World) (h : Reads w w.heap.size 2 A L.length (flat L)) (hs : Sm L) : Calls Try.prog 15 #[.slice A L.length c] w (BelPost (.int .i64 (lenS L)) w) := by
  have hl := hs.1
  have H2 := Lib.hid h
  have HS := Lib.hid hs
  clear h hs
  go_enter Try.func15, Try.ntmps15
  go_wp2_with fail
  go_loopw [3, 8] (fun s i wr => ∃ k : Nat, k ≤ L.length ∧ i = .int .i64 k ∧ s = .int .i64 (lenS (L.take k)) ∧ Below w.heap.size w wr) (fun _ i _ => L.length - (intOf i).toNat)
  case atStart => exact ⟨0, Nat.zero_le _, rfl, rfl, Below.refl _ _⟩
  case round =>
    obtain ⟨k, hk, rfl, rfl, hb⟩ := hrel
    by_cases hlt : k < L.length
    · have hkr := List.getElem?_eq_getElem hlt
      generalize L[k] = r at *
      obtain ⟨b, off, rfl, _, ca, cb⟩ := (H2.out.ext hb).rg hkr
      have hr := HS.out.2 r (List.mem_of_getElem? hkr)
      have hbd := lenS_bound HS.out k
      have HN := Lib.hid (show lenS (L.take (k + 1)) = lenS (L.take k) + (r.2 - r.1) by rw [take_snoc' _ _ _ hkr, lenS_snoc])
      have HB := Lib.hid (below_alloc' hb (Obj.cells #[.int .i64 r.1, .int .i64 r.2] 31))
      clear hkr hb
      generalize lenS (L.take k) = acc at *
      obtain ⟨p, q⟩ := r
      simp only at *
      go_wp2_with fail
      go_roundw
      case rel => exact ⟨k + 1, by omega, by go_num, by rw [HN.out], HB.out⟩
      case measure => simp [intOf]; omega
    · have hkn : k = L.length := by omega
      have HT := Lib.hid (show lenS L = lenS (L.take k) by rw [hkn, List.take_length])
      clear hkn
      go_wp2_with fail
      go_ret
      exact ⟨by rw [HT.out]; rfl, hb⟩

theorem newSet_any (w : World) : Calls Try.prog 36 #[] w (fun e w' => e = .returned (.pointer (some ⟨w.heap.size, 0, none⟩)) ∧ SetAt w' w.heap.size w.heap.size none [] ∧ Below w.heap.size w w') := by
  go_enter Try.func36, Try.ntmps36
  go_wp2
  go_ret
  refine ⟨rfl, ⟨none, 0, ?_, World.ownsRow_nil _ _ _ _, rfl, Nat.le_refl _⟩, ?_⟩
  · exact Blk.new _ _ _
  · exact (Below.refl _ _).alloc (Nat.le_refl _) _
end Go.Proofs.Ytckdcceglmlinaa
