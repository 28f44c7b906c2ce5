/- The walk of impl.back: a copy of the package's table. Condition: the table reads, and is small. -/
import Derived.Test.YtcbabfndfikejaaQ1
namespace Go.Proofs.Ytcbabfndfikejaa
open Go.RowKit

theorem impl_info : (Try.prog.info? 56).map (fun i => (i.zero, i.size, i.bytes)) = some (some (.agg #[.slice none 0 0, .slice none 0 0]), 2, 48) := by kernel_rfl
set_option maxHeartbeats 4000000 in
theorem back_any (A : Option Addr) (c : Nat) (ns : List Nd) (w : World) (ht : Tbl w w.heap.size A ns) (hg : ns.length ≤ 100000 ∧ ∀ (k : Nat) (nd : Nd), ns[k]? = some nd → nd.ps.length ≤ 1000 ∧ nd.ss.length ≤ 1000) :
    Calls Try.prog 42 #[.slice A ns.length c] w (fun e w' => ∃ v, e = .returned v ∧ OwnTbl w' w.heap.size 56 v ns ∧ Below w.heap.size w w') := by
  obtain ⟨i0, hi0, hz0, hz1, hz2⟩ := info_parts impl_info
  obtain ⟨j0, hj0, hy0, hy1, hy2⟩ := info_parts int_info
  have hm := hg.1
  have HG := Lib.hid hg
  clear hg
  go_enter Try.func42, Try.ntmps42
  go_wp2_with fail
  go_loopw [3, 9] (fun o i wr => ∃ k : Nat, k ≤ ns.length ∧ i = .int .i64 k ∧ OwnTbl wr w.heap.size 56 o (ns.take k) ∧ Below w.heap.size w wr) (fun _ i _ => ns.length - (intOf i).toNat)
  case atStart => exact ⟨0, Nat.zero_le _, rfl, ⟨[], World.ownsRow_made w #[] 0 (Nat.le_refl _) (by simp [maxLen]) rfl, fun i nd hi => by simp at hi⟩, (Below.refl _ _).alloc (Nat.le_refl _) _⟩
  case round =>
    obtain ⟨k, hk, rfl, hown, hb⟩ := hrel
    by_cases hlt : k < ns.length
    · have hkn := List.getElem?_eq_getElem hlt
      obtain ⟨b, off, Ap, cp, As, cs, rfl, hbb, cu, cv, rp, rs⟩ := (ht.below hb).at_ hkn
      generalize ns[k] = nd at *
      have hok := HG.out.2 k nd hkn
      have HK := Lib.hid (take_snoc' ns k nd hkn)
      have hn1 : nd.ps.length ≤ 1000 := hok.1
      have hn2 : nd.ss.length ≤ 1000 := hok.2
      obtain ⟨xs, ho1, ho2⟩ := hown
      have HO1 := Lib.hid ho1
      have HO2 := Lib.hid ho2
      have HP := Lib.hid rp
      have HS := Lib.hid rs
      have hbs := hb.size
      have HB := Lib.hid hb
      clear ht hkn hok ho1 ho2 rp rs hb
      go_wp2_with fail
      obtain ⟨W0, hW0⟩ : ∃ W0, W0 = wr.alloc (Obj.cells #[Value.slice Ap nd.ps.length cp, Value.slice As nd.ss.length cs] 76) := ⟨_, rfl⟩
      have hbW : Below wr.heap.size wr W0 := by rw [hW0]; exact (Below.refl _ _).alloc (Nat.le_refl _) _
      have hbsW : wr.heap.size + 1 ≤ W0.heap.size := by rw [hW0]; simp
      have c0 : W0.cell? ⟨wr.heap.size, 0, none⟩ = some (.slice Ap nd.ps.length cp) := by rw [hW0]; simp [World.cell?_alloc_new]
      have c1 : W0.cell? ⟨wr.heap.size, 1, none⟩ = some (.slice As nd.ss.length cs) := by rw [hW0]; simp [World.cell?_alloc_new]
      rw [← hW0]
      have HPW : Hid (Reads W0 w.heap.size 1 Ap nd.ps.length (ints nd.ps)) := HP.out.below (hbW.mono hbs)
      have HSW : Hid (Reads W0 w.heap.size 1 As nd.ss.length (ints nd.ss)) := HS.out.below (hbW.mono hbs)
      have HOW : Hid (W0.ownsRow w.heap.size 56 2 u3 (ns.take k).length xs) := ownsRow_ext HO1.out hbW
      have HBW : Hid (Below w.heap.size w W0) := below_trans' HB.out hbs hbW
      have HO2W : Hid (∀ i nd, (ns.take k)[i]? = some nd → ∃ u u', xs[i * 2]? = some u ∧ xs[i * 2 + 1]? = some u' ∧ W0.ownsRow w.heap.size 3 1 u nd.ps.length (ints nd.ps) ∧ W0.ownsRow w.heap.size 3 1 u' nd.ss.length (ints nd.ss)) := fun i nd hi => by
        obtain ⟨u, u', hu, hu', r1, r2⟩ := HO2.out i nd hi
        exact ⟨u, u', hu, hu', ownsRow_ext r1 hbW, ownsRow_ext r2 hbW⟩
      have HNE : Hid (some wr.heap.size ≠ u3.ownBlock) := fun he => by have := (HO1.out.lt _ he.symm).2; omega
      clear hW0
      go_region_held3 (fun w' => w'.cell? ⟨wr.heap.size, 0, none⟩ = some (.slice Ap nd.ps.length cp) ∧ w'.cell? ⟨wr.heap.size, 1, none⟩ = some (.slice As nd.ss.length cs))
        ((refine ⟨?_, ?_⟩ <;> repeat (first | with_reducible assumption | with_reducible refine cell_drew ?_ | with_reducible refine cell_alloc ?_ _ | with_reducible refine World.grownBy.cell hg3 ?_ HNE.out | with_reducible refine cell_bel ?_ hb2 | with_reducible refine cell_bel ?_ hb1)))
        (first
          | (refine step_append_copy (by rfl) (.tmp 14) (.tmp 16) 22 (by rfl) w.heap.size 3 j0 (.int .i64 0) 1 8 Try.underlying22 hj0 hy0 hy1 hy2 rfl (by omega) _ (by rfl) ?_ ?_ w.heap.size Ap nd.ps.length cp (ints nd.ps) (by rfl) (Reads.below HPW.out (Below.mono (B := W0.heap.size) ?_ (by omega))) (by omega) (by omega) ?_
             · first | (refine heap_new' ?_; (first | (simp; done) | (simp; omega)); done) | (refine (heap_old' ?_).trans (heap_new' ?_) <;> (first | (simp; done) | (simp; omega)); done) | (refine (hb1.block _ ?_).trans (heap_new' ?_) <;> (first | (simp; done) | (simp; omega)); done) | (refine (hb1.block _ ?_).trans ((heap_old' ?_).trans (heap_new' ?_)) <;> (first | (simp; done) | (simp; omega)); done)
             · first | omega | (have hz1 := hb1.size; simp at hz1; omega) | (have hz2 := hb2.size; simp at hz2; omega)
             · (repeat (first | with_reducible exact Below.refl _ _ | with_reducible refine below_alloc' ?_ _ | with_reducible refine below_drew' ?_ | with_reducible refine below_trans ?_ hb2 | with_reducible refine below_trans ?_ hb1))
             intro v1 w1 hown1 hb1
             obtain ⟨A1, c1, rfl, hr1⟩ := own_slice hown1)
          | (refine step_append_copy (by rfl) (.tmp 18) (.tmp 20) 22 (by rfl) w.heap.size 3 j0 (.int .i64 0) 1 8 Try.underlying22 hj0 hy0 hy1 hy2 rfl (by omega) _ (by rfl) ?_ ?_ w.heap.size As nd.ss.length cs (ints nd.ss) (by rfl) (Reads.below HSW.out (Below.mono (B := W0.heap.size) ?_ (by omega))) (by omega) (by omega) ?_
             · first | (refine heap_new' ?_; (first | (simp; done) | (simp; omega)); done) | (refine (heap_old' ?_).trans (heap_new' ?_) <;> (first | (simp; done) | (simp; omega)); done) | (refine (hb1.block _ ?_).trans (heap_new' ?_) <;> (first | (simp; done) | (simp; omega)); done) | (refine (hb1.block _ ?_).trans ((heap_old' ?_).trans (heap_new' ?_)) <;> (first | (simp; done) | (simp; omega)); done)
             · first | omega | (have hz1 := hb1.size; simp at hz1; omega) | (have hz2 := hb2.size; simp at hz2; omega)
             · (repeat (first | with_reducible exact Below.refl _ _ | with_reducible refine below_alloc' ?_ _ | with_reducible refine below_drew' ?_ | with_reducible refine below_trans ?_ hb2 | with_reducible refine below_trans ?_ hb1))
             intro v2 w2 hown2 hb2
             obtain ⟨A2, c2, rfl, hr2⟩ := own_slice hown2)
          | (refine step_append_bel (by rfl) (.tmp 13) (.tmp 23) 25 (by rfl) w.heap.size 56 i0 _ 2 48 Try.underlying25 hi0 hz0 hz1 hz2 rfl (by omega) u3 (ns.take k).length xs (by rfl) (ownsRow_ext HOW.out ?_) _ _ 1 1 _ (by rfl) (reads_new (by simp) rfl) (by simp [Value.oneCell']) (by simp; omega) (by omega) (W := w) (below_trans' HBW.out (by omega) ?_) (Nat.le_trans (show w.heap.size ≤ W0.heap.size by omega) (Below.size (w := W0) (B := W0.heap.size) ?_)) ?_
             · (repeat (first | with_reducible exact Below.refl _ _ | with_reducible refine below_alloc' ?_ _ | with_reducible refine below_drew' ?_ | with_reducible refine below_trans ?_ hb2 | with_reducible refine below_trans ?_ hb1))
             · (repeat (first | with_reducible exact Below.refl _ _ | with_reducible refine below_alloc' ?_ _ | with_reducible refine below_drew' ?_ | with_reducible refine below_trans ?_ hb2 | with_reducible refine below_trans ?_ hb1))
             · (repeat (first | with_reducible exact Below.refl _ _ | with_reducible refine below_alloc' ?_ _ | with_reducible refine below_drew' ?_ | with_reducible refine below_trans ?_ hb2 | with_reducible refine below_trans ?_ hb1))
             intro v3 w3 hown3 hb3 hg3 _))
      all_goals
        have HT : Hid (OwnTbl w3 w.heap.size 56 v3 (ns.take k ++ [nd])) := by
          refine OwnTbl.snoc2 (by decide) ⟨HOW.out, HO2W.out⟩ ?_ ?_ ?_ hown3 hg3
          · (repeat (first | with_reducible exact Below.refl _ _ | with_reducible refine below_alloc' ?_ _ | with_reducible refine below_drew' ?_ | with_reducible refine below_trans ?_ hb2 | with_reducible refine below_trans ?_ hb1))
          · (repeat (first | with_reducible exact hown1 | with_reducible exact hown2 | with_reducible refine World.ownsRow.alloc ?_ _ | with_reducible refine own_drew ?_ | with_reducible refine ownsRow_ext ?_ hb2 | with_reducible refine ownsRow_ext ?_ hb1))
          · (repeat (first | with_reducible exact hown1 | with_reducible exact hown2 | with_reducible refine World.ownsRow.alloc ?_ _ | with_reducible refine own_drew ?_ | with_reducible refine ownsRow_ext ?_ hb2 | with_reducible refine ownsRow_ext ?_ hb1))
        clear hown3 hg3 hown1 hown2 hb1 hb2 hr1 hr2
        go_wp2_with fail
        go_roundw
        case rel => exact ⟨k + 1, by omega, by go_num, by rw [HK.out]; exact HT.out, hb3⟩
        case measure => simp [intOf]; omega
    · have hkn : k = ns.length := by omega
      have HKN := Lib.hid hkn
      have HOWN := Lib.hid hown
      clear hkn hown
      go_wp2_with fail
      go_ret
      refine ⟨_, rfl, ?_, hb⟩
      have h := HOWN.out
      rwa [HKN.out, List.take_length] at h
end Go.Proofs.Ytcbabfndfikejaa
