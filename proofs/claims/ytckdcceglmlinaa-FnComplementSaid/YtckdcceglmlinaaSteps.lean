/- The copy of the steps, and the frame of a law over steps: what came in, opened. Condition: the bound on the length. -/
import Derived.Test.YtckdcceglmlinaaBuild
namespace Go.Proofs.Ytckdcceglmlinaa
open Go.RowKit
set_option linter.unusedSimpArgs false

set_option maxHeartbeats 800000 in
theorem steps_any (A : Option Addr) (c : Nat) (L : List St) (w : World) (h : Reads w w.heap.size 3 A L.length (flat3 L)) (hm : L.length ≤ 2147483647) : Calls Try.prog 10 #[.slice A L.length c] w (OwnPost 51 3 L.length (flat3 L) w) := by
  have H2 := Lib.hid h
  clear h
  obtain ⟨i0, hi0, hz0, hz1, hz2⟩ := info_parts info51
  go_enter Try.func10, Try.ntmps10
  go_wp2_with fail
  go_loopw [3, 9] (fun o i wr => ∃ k : Nat, k ≤ L.length ∧ i = .int .i64 k ∧ wr.ownsRow w.heap.size 51 3 o k (flat3 (L.take k)) ∧ Below w.heap.size w wr) (fun _ i _ => L.length - (intOf i).toNat)
  case atStart => exact ⟨0, Nat.zero_le _, rfl, World.ownsRow_made w #[] 0 (Nat.le_refl _) (by simp [maxLen]) rfl, (Below.refl _ _).alloc (Nat.le_refl _) _⟩
  case round =>
    obtain ⟨k, hk, rfl, hown, hb⟩ := hrel
    by_cases hlt : k < L.length
    · have hkr := List.getElem?_eq_getElem hlt
      generalize L[k] = r at *
      obtain ⟨b, off, rfl, hbb, cu, cv, cx⟩ := (H2.out.ext hb).st hkr
      have HT := Lib.hid (flat3_take_succ hkr)
      clear hkr
      go_wp2_with (first
        | (at_builtin
           go_must (refine wpList_append_bel rfl (.tmp 13) (.tmp 21) _ rfl w w.heap.size 51 i0 _ 3 24 Try.underlying26 hi0 hz0 hz1 hz2 rfl (by omega) _ k (flat3 (L.take k)) rfl ((hown.alloc _).alloc _) _ _ 1 1 _ rfl (reads_new (by simp) rfl) (by simp [Value.oneCell']) (by omega) (by omega) (below_alloc2 hb hb.size _ _) (by simp; have := hb.size; omega) ?_)
           intro v1 w1 hown1 hb1 _ _))
      have hown2 : w1.ownsRow w.heap.size 51 3 v1 (k + 1) (flat3 (L.take (k + 1))) := by rw [HT.out]; exact hown1
      clear hown1 hown hb cu cv cx
      go_wp2_with fail
      go_roundw
      case rel => exact ⟨k + 1, by omega, by go_num, hown2, hb1⟩
      case measure => simp [intOf]; omega
    · go_wp2_with fail
      go_ret
      have hkn : k = L.length := by omega
      subst hkn
      rw [List.take_length] at hown
      obtain ⟨A', c', rfl, _⟩ := own_slice hown
      exact ⟨_, _, rfl, hown, hb⟩

/-- spec.Build -/
def SpecPost (sts : List St) (w : World) (e : Ending) (w' : World) : Prop := ∃ A c bs ok, e = .returned (.tuple #[.slice A (rangesF bs).length c, .bool ok]) ∧ bs.length = 62 ∧
  w'.ownsRow w.heap.size 31 2 (.slice A (rangesF bs).length c) (rangesF bs).length (flat (rangesF bs)) ∧ (ok = true → refB zeros sts = some bs ∧ sts.length ≤ 16) ∧ Below w.heap.size w w'
theorem specBuild_any (A : Option Addr) (c : Nat) (sts : List St) (w : World) (h : Reads w w.heap.size 3 A sts.length (flat3 sts)) (hm : sts.length ≤ 2147483647) :
    Calls Try.prog 9 #[.slice A sts.length c] w (SpecPost sts w) := by
  have H2 := Lib.hid h
  clear h
  go_enter Try.func9, Try.ntmps9
  go_wp2_with fail
  refine (build_any A c sts w H2.out hm).mono ?_
  rintro e w1 ⟨g, cap, bs, ok, rfl, hbl, hown, HREF, hb⟩
  have HO := Lib.hid (Reads.of_own hown)
  have HR := Lib.hid HREF
  have HB := Lib.hid hb
  clear hown HREF hb
  go_wp2_with fail
  have hra := ranges_any (some ⟨g, 0, none⟩) cap bs w1 (by rw [hbl]; exact HO.out) (by omega)
  rw [hbl] at hra
  refine hra.mono ?_
  rintro e w2 ⟨A2, c2, rfl, hown2, hb2⟩
  have HO2 := Lib.hid hown2
  have HB2 := Lib.hid (below_trans HB.out hb2)
  have hsz := HB.out.size
  clear hown2 hb2 hra
  go_wp2_with fail
  go_ret2
  refine ⟨_, _, bs, ok, rfl, hbl, ?_, HR.out, HB2.out⟩
  have := HO2.out
  refine ⟨this.1, ?_⟩
  rcases this.2 with h0 | ⟨g', cap', cur, hv, hg', r⟩
  · exact .inl h0
  · exact .inr ⟨g', cap', cur, hv, by omega, r⟩
end Go.Proofs.Ytckdcceglmlinaa
