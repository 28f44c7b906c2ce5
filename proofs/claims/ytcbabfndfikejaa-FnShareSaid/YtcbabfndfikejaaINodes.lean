/- The walks of spec.In and of impl.nodes: the package has a copy of the table. Condition: the table is good. -/
import Derived.Test.YtcbabfndfikejaaGood
import Derived.Test.YtcbabfndfikejaaNodes
import Derived.Test.YtcbabfndfikejaaLib3
import Derived.Deep.RegionHeld3
import Derived.Deep.DrawnRows
namespace Go.Proofs.Ytcbabfndfikejaa
open Go.RowKit

theorem specIn_any (A : Option Addr) (n c : Nat) (a : Int) (w : World) :
    Calls Try.prog 19 #[.slice A n c, .int .i64 a] w fun e w' => e = .returned (.bool (decide (0 ≤ a) && decide (a < n))) ∧ w = w' := by
  by_cases h : 0 ≤ a
  · go_enter Try.func19, Try.ntmps19
    go_wp2_with fail
    go_ret
    exact ⟨by simp [h], rfl⟩
  · have h' : decide (0 ≤ a) = false := by simpa using h
    go_enter Try.func19, Try.ntmps19
    go_wp2_with fail
    go_ret
    exact ⟨by simp, rfl⟩

theorem antlr_info : (Try.prog.info? 76).map (fun i => (i.zero, i.size, i.bytes)) = some (some (.agg #[.slice none 0 0, .slice none 0 0]), 2, 48) := by kernel_rfl

/-- a slice of the call's own that has the nodes, each with slices of the call's own -/
def OwnTbl (w : World) (base : Nat) (e : TypeId) (v : Value) (ns : List Nd) : Prop :=
  ∃ xs, w.ownsRow base e 2 v ns.length xs ∧ ∀ i nd, ns[i]? = some nd → ∃ u u', xs[i * 2]? = some u ∧ xs[i * 2 + 1]? = some u' ∧ w.ownsRow base 3 1 u nd.ps.length (ints nd.ps) ∧ w.ownsRow base 3 1 u' nd.ss.length (ints nd.ss)

theorem below_alloc' {a b : World} (h : Below a.heap.size a b) (o : Obj) : Below a.heap.size a (b.alloc o) := h.alloc h.size o

theorem heap_new' {w : World} {o : Obj} {g : Nat} (hg : w.heap.size = g) : (w.alloc o).heap[g]? = some o := by subst hg; exact heap_alloc_new w o
theorem heap_old' {w : World} {o : Obj} {g : Nat} (hg : g < w.heap.size) : (w.alloc o).heap[g]? = w.heap[g]? := heap_alloc_old w o hg
theorem below_drew' {a b : World} (h : Below a.heap.size a b) : Below a.heap.size a b.drew := h.drew
theorem cell_alloc {w : World} {p : Addr} {v : Value} (h : w.cell? p = some v) (o : Obj) : (w.alloc o).cell? p = some v := (World.cell?_alloc_lt w o p (World.block_lt_of_cell? w p h)).trans h
theorem cell_drew {w : World} {p : Addr} {v : Value} (h : w.cell? p = some v) : w.drew.cell? p = some v := h
theorem cell_bel {w w' : World} {p : Addr} {v : Value} (h : w.cell? p = some v) (hb : Below w.heap.size w w') : w'.cell? p = some v := (hb.cell (World.block_lt_of_cell? w p h)).trans h

theorem own_ne {w : World} {base base' : Nat} {e e' : TypeId} {size size' n n' : Nat} {v v' : Value} {xs xs' : List Value} (h : w.ownsRow base e size v n xs) (h' : w.ownsRow base' e' size' v' n' xs') (hne : e ≠ e') :
    v.ownBlock = none ∨ v.ownBlock ≠ v'.ownBlock := by
  rcases h.2 with ⟨rfl, _⟩ | ⟨g, cap, cur, rfl, _, hg, _⟩
  · exact .inl rfl
  · right
    rcases h'.2 with ⟨rfl, _⟩ | ⟨g', cap', cur', rfl, _, hg', _⟩
    · simp [Value.ownBlock]
    · intro he
      have : g = g' := by simpa [Value.ownBlock] using he
      subst this
      rw [hg] at hg'
      injection hg' with hg'
      injection hg' with _ ht
      exact hne ht

theorem OwnTbl.ext {w w' : World} {base : Nat} {e : TypeId} {v : Value} {ns : List Nd} (h : OwnTbl w base e v ns) (hb : Below w.heap.size w w') : OwnTbl w' base e v ns := by
  obtain ⟨xs, h1, h2⟩ := h
  refine ⟨xs, ownsRow_ext h1 hb, fun i nd hi => ?_⟩
  obtain ⟨u, u', hu, hu', r1, r2⟩ := h2 i nd hi
  exact ⟨u, u', hu, hu', ownsRow_ext r1 hb, ownsRow_ext r2 hb⟩
theorem OwnTbl.snoc {w w' : World} {base : Nat} {e : TypeId} {v v' u u' : Value} {ns : List Nd} {nd : Nd} {xs : List Value} (he : e ≠ 3)
    (h1 : w.ownsRow base e 2 v ns.length xs) (h2 : ∀ i nd, ns[i]? = some nd → ∃ u u', xs[i * 2]? = some u ∧ xs[i * 2 + 1]? = some u' ∧ w.ownsRow base 3 1 u nd.ps.length (ints nd.ps) ∧ w.ownsRow base 3 1 u' nd.ss.length (ints nd.ss))
    (hu : w.ownsRow base 3 1 u nd.ps.length (ints nd.ps)) (hu' : w.ownsRow base 3 1 u' nd.ss.length (ints nd.ss))
    (h3 : w'.ownsRow base e 2 v' (ns.length + 1) (xs ++ [u, u'])) (hg : w.grownBy w' v.ownBlock) : OwnTbl w' base e v' (ns ++ [nd]) := by
  have hl := h1.1
  refine ⟨xs ++ [u, u'], by simpa using h3, fun i nd' hi => ?_⟩
  have kp : ∀ {x : Value} {l : List Int}, w.ownsRow base 3 1 x l.length (ints l) → w'.ownsRow base 3 1 x l.length (ints l) := fun hx => hx.kept hg (own_ne hx h1 (Ne.symm he))
  rcases Nat.lt_or_ge i ns.length with hlt | hge
  · rw [List.getElem?_append_left hlt] at hi
    obtain ⟨x, x', hx, hx', r1, r2⟩ := h2 i nd' hi
    exact ⟨x, x', by rw [List.getElem?_append_left (by omega)]; exact hx, by rw [List.getElem?_append_left (by omega)]; exact hx', kp r1, kp r2⟩
  · rw [List.getElem?_append_right hge] at hi
    have : i = ns.length := by
      rcases Nat.eq_zero_or_pos (i - ns.length) with h0 | h0
      · omega
      · rw [List.getElem?_eq_none (by simp; omega)] at hi; cases hi
    subst this
    simp at hi
    subst hi
    exact ⟨u, u', by rw [List.getElem?_append_right (by omega)]; simp [hl], by rw [List.getElem?_append_right (by omega)]; simp [hl], kp hu, kp hu'⟩

theorem own_drew {w : World} {base : Nat} {e : TypeId} {size : Nat} {v : Value} {n : Nat} {xs : List Value} (h : w.ownsRow base e size v n xs) : w.drew.ownsRow base e size v n xs := h
theorem OwnTbl.snoc2 {W0 W w' : World} {base : Nat} {e : TypeId} {v v' u u' : Value} {ns : List Nd} {nd : Nd} {xs : List Value} (he : e ≠ 3)
    (h0 : W0.ownsRow base e 2 v ns.length xs ∧ ∀ i nd, ns[i]? = some nd → ∃ u u', xs[i * 2]? = some u ∧ xs[i * 2 + 1]? = some u' ∧ W0.ownsRow base 3 1 u nd.ps.length (ints nd.ps) ∧ W0.ownsRow base 3 1 u' nd.ss.length (ints nd.ss))
    (hX : Below W0.heap.size W0 W) (hu : W.ownsRow base 3 1 u nd.ps.length (ints nd.ps)) (hu' : W.ownsRow base 3 1 u' nd.ss.length (ints nd.ss))
    (h3 : w'.ownsRow base e 2 v' (ns.length + 1) (xs ++ [u, u'])) (hg : W.grownBy w' v.ownBlock) : OwnTbl w' base e v' (ns ++ [nd]) :=
  OwnTbl.snoc he (ownsRow_ext h0.1 hX) (fun i nd hi => by
    obtain ⟨u, u', hu, hu', r1, r2⟩ := h0.2 i nd hi
    exact ⟨u, u', hu, hu', ownsRow_ext r1 hX, ownsRow_ext r2 hX⟩) hu hu' h3 hg

set_option maxHeartbeats 4000000 in
theorem implNodes_any (A : Option Addr) (c : Nat) (ns : List Nd) (w : World) (ht : Tbl w w.heap.size A ns) (hg : GoodT ns) :
    Calls Try.prog 37 #[.slice A ns.length c] w (fun e w' => ∃ v, e = .returned v ∧ OwnTbl w' w.heap.size 76 v ns ∧ Below w.heap.size w w') := by
  obtain ⟨i0, hi0, hz0, hz1, hz2⟩ := info_parts antlr_info
  obtain ⟨j0, hj0, hy0, hy1, hy2⟩ := info_parts int_info
  have hm := hg.1
  have HG := Lib.hid hg
  clear hg
  go_enter Try.func37, Try.ntmps37
  go_wp2_with fail
  go_loopw [3, 9] (fun o i wr => ∃ k : Nat, k ≤ ns.length ∧ i = .int .i64 k ∧ OwnTbl wr w.heap.size 76 o (ns.take k) ∧ Below w.heap.size w wr) (fun _ i _ => ns.length - (intOf i).toNat)
  case atStart => exact ⟨0, Nat.zero_le _, rfl, ⟨[], World.ownsRow_made w #[] 0 (Nat.le_refl _) (by simp [maxLen]) rfl, fun i nd hi => by simp at hi⟩, (Below.refl _ _).alloc (Nat.le_refl _) _⟩
  case round =>
    obtain ⟨k, hk, rfl, hown, hb⟩ := hrel
    by_cases hlt : k < ns.length
    · have hkn := List.getElem?_eq_getElem hlt
      obtain ⟨b, off, Ap, cp, As, cs, rfl, hbb, cu, cv, rp, rs⟩ := (ht.below hb).at_ hkn
      generalize ns[k] = nd at *
      have hok := HG.out.2 k nd hlt hkn
      have HK := Lib.hid (take_snoc' ns k nd hkn)
      have hn1 : nd.ps.length ≤ 4 := by have := hok.1; have := hok.2.1; omega
      have hn2 : nd.ss.length ≤ 4 := hok.2.1
      obtain ⟨xs, ho1, ho2⟩ := hown
      have HO1 := Lib.hid ho1
      have HO2 := Lib.hid ho2
      have HP := Lib.hid rp
      have HS := Lib.hid rs
      have hbs := hb.size
      have HB := Lib.hid hb
      clear ht hkn hok ho1 ho2 rp rs hb
      go_wp2_with fail
      obtain ⟨W0, hW0⟩ : ∃ W0, W0 = wr.alloc (Obj.cells #[Value.slice Ap nd.ps.length cp, Value.slice As nd.ss.length cs] 56) := ⟨_, rfl⟩
      have hbW : Below wr.heap.size wr W0 := by rw [hW0]; exact (Below.refl _ _).alloc (Nat.le_refl _) _
      have hbsW : wr.heap.size + 1 ≤ W0.heap.size := by rw [hW0]; simp
      have c0 : W0.cell? ⟨wr.heap.size, 0, none⟩ = some (.slice Ap nd.ps.length cp) := by rw [hW0]; simp [World.cell?_alloc_new]
      have c1 : W0.cell? ⟨wr.heap.size, 1, none⟩ = some (.slice As nd.ss.length cs) := by rw [hW0]; simp [World.cell?_alloc_new]
      rw [← hW0]
      have HPW : Hid (Reads W0 w.heap.size 1 Ap nd.ps.length (ints nd.ps)) := HP.out.below (hbW.mono hbs)
      have HSW : Hid (Reads W0 w.heap.size 1 As nd.ss.length (ints nd.ss)) := HS.out.below (hbW.mono hbs)
      have HOW : Hid (W0.ownsRow w.heap.size 76 2 u3 (ns.take k).length xs) := ownsRow_ext HO1.out hbW
      have HBW : Hid (Below w.heap.size w W0) := below_trans' HB.out hbs hbW
      have HO2W : Hid (∀ i nd, (ns.take k)[i]? = some nd → ∃ u u', xs[i * 2]? = some u ∧ xs[i * 2 + 1]? = some u' ∧ W0.ownsRow w.heap.size 3 1 u nd.ps.length (ints nd.ps) ∧ W0.ownsRow w.heap.size 3 1 u' nd.ss.length (ints nd.ss)) := fun i nd hi => by
        obtain ⟨u, u', hu, hu', r1, r2⟩ := HO2.out i nd hi
        exact ⟨u, u', hu, hu', ownsRow_ext r1 hbW, ownsRow_ext r2 hbW⟩
      have HNE : Hid (some wr.heap.size ≠ u3.ownBlock) := fun he => by have := (HO1.out.lt _ he.symm).2; omega
      clear hW0
      go_region_held3 (fun w' => w'.cell? ⟨wr.heap.size, 0, none⟩ = some (.slice Ap nd.ps.length cp) ∧ w'.cell? ⟨wr.heap.size, 1, none⟩ = some (.slice As nd.ss.length cs))
        ((refine ⟨?_, ?_⟩ <;> repeat (first | with_reducible assumption | with_reducible refine cell_drew ?_ | with_reducible refine cell_alloc ?_ _ | with_reducible refine World.grownBy.cell hg3 ?_ HNE.out | with_reducible refine cell_bel ?_ hb2 | with_reducible refine cell_bel ?_ hb1)))
        (first
          | (refine step_append_copy (by rfl) (.tmp 14) (.tmp 16) 22 (by rfl) w.heap.size 3 j0 (.int .i64 0) 1 8 Try.underlying22 hj0 hy0 hy1 hy2 rfl (by omega) _ (by rfl) ?_ ?_ w.heap.size Ap nd.ps.length cp (ints nd.ps) (by rfl) (Reads.below HPW.out (Below.mono (B := W0.heap.size) ?_ (by omega))) (by omega) (by omega) ?_
             · first | (refine heap_new' ?_; (first | (simp; done) | (simp; omega)); done) | (refine (heap_old' ?_).trans (heap_new' ?_) <;> (first | (simp; done) | (simp; omega)); done) | (refine (hb1.block _ ?_).trans (heap_new' ?_) <;> (first | (simp; done) | (simp; omega)); done) | (refine (hb1.block _ ?_).trans ((heap_old' ?_).trans (heap_new' ?_)) <;> (first | (simp; done) | (simp; omega)); done)
             · first | omega | (have hz1 := hb1.size; simp at hz1; omega) | (have hz2 := hb2.size; simp at hz2; omega)
             · (repeat (first | with_reducible exact Below.refl _ _ | with_reducible refine below_alloc' ?_ _ | with_reducible refine below_drew' ?_ | with_reducible refine below_trans ?_ hb2 | with_reducible refine below_trans ?_ hb1))
             intro v1 w1 hown1 hb1
             obtain ⟨A1, c1, rfl, hr1⟩ := own_slice hown1)
          | (refine step_append_copy (by rfl) (.tmp 18) (.tmp 20) 22 (by rfl) w.heap.size 3 j0 (.int .i64 0) 1 8 Try.underlying22 hj0 hy0 hy1 hy2 rfl (by omega) _ (by rfl) ?_ ?_ w.heap.size As nd.ss.length cs (ints nd.ss) (by rfl) (Reads.below HSW.out (Below.mono (B := W0.heap.size) ?_ (by omega))) (by omega) (by omega) ?_
             · first | (refine heap_new' ?_; (first | (simp; done) | (simp; omega)); done) | (refine (heap_old' ?_).trans (heap_new' ?_) <;> (first | (simp; done) | (simp; omega)); done) | (refine (hb1.block _ ?_).trans (heap_new' ?_) <;> (first | (simp; done) | (simp; omega)); done) | (refine (hb1.block _ ?_).trans ((heap_old' ?_).trans (heap_new' ?_)) <;> (first | (simp; done) | (simp; omega)); done)
             · first | omega | (have hz1 := hb1.size; simp at hz1; omega) | (have hz2 := hb2.size; simp at hz2; omega)
             · (repeat (first | with_reducible exact Below.refl _ _ | with_reducible refine below_alloc' ?_ _ | with_reducible refine below_drew' ?_ | with_reducible refine below_trans ?_ hb2 | with_reducible refine below_trans ?_ hb1))
             intro v2 w2 hown2 hb2
             obtain ⟨A2, c2, rfl, hr2⟩ := own_slice hown2)
          | (refine step_append_bel (by rfl) (.tmp 13) (.tmp 23) 59 (by rfl) w.heap.size 76 i0 _ 2 48 Try.underlying59 hi0 hz0 hz1 hz2 rfl (by omega) u3 (ns.take k).length xs (by rfl) (ownsRow_ext HOW.out ?_) _ _ 1 1 _ (by rfl) (reads_new (by simp) rfl) (by simp [Value.oneCell']) (by simp; omega) (by omega) (W := w) (below_trans' HBW.out (by omega) ?_) (Nat.le_trans (show w.heap.size ≤ W0.heap.size by omega) (Below.size (w := W0) (B := W0.heap.size) ?_)) ?_
             · (repeat (first | with_reducible exact Below.refl _ _ | with_reducible refine below_alloc' ?_ _ | with_reducible refine below_drew' ?_ | with_reducible refine below_trans ?_ hb2 | with_reducible refine below_trans ?_ hb1))
             · (repeat (first | with_reducible exact Below.refl _ _ | with_reducible refine below_alloc' ?_ _ | with_reducible refine below_drew' ?_ | with_reducible refine below_trans ?_ hb2 | with_reducible refine below_trans ?_ hb1))
             · (repeat (first | with_reducible exact Below.refl _ _ | with_reducible refine below_alloc' ?_ _ | with_reducible refine below_drew' ?_ | with_reducible refine below_trans ?_ hb2 | with_reducible refine below_trans ?_ hb1))
             intro v3 w3 hown3 hb3 hg3 _))
      all_goals
        have HT : Hid (OwnTbl w3 w.heap.size 76 v3 (ns.take k ++ [nd])) := by
          refine OwnTbl.snoc2 (by decide) ⟨HOW.out, HO2W.out⟩ ?_ ?_ ?_ hown3 hg3
          · (repeat (first | with_reducible exact Below.refl _ _ | with_reducible refine below_alloc' ?_ _ | with_reducible refine below_drew' ?_ | with_reducible refine below_trans ?_ hb2 | with_reducible refine below_trans ?_ hb1))
          · (repeat (first | with_reducible exact hown1 | with_reducible exact hown2 | with_reducible refine World.ownsRow.alloc ?_ _ | with_reducible refine own_drew ?_ | with_reducible refine ownsRow_ext ?_ hb2 | with_reducible refine ownsRow_ext ?_ hb1))
          · (repeat (first | with_reducible exact hown1 | with_reducible exact hown2 | with_reducible refine World.ownsRow.alloc ?_ _ | with_reducible refine own_drew ?_ | with_reducible refine ownsRow_ext ?_ hb2 | with_reducible refine ownsRow_ext ?_ hb1))
        clear hown3 hg3 hown1 hown2 hb1 hb2 hr1 hr2
        go_wp2_with fail
        go_roundw
        case rel => exact ⟨k + 1, by omega, by go_num, by rw [HK.out]; exact HT.out, hb3⟩
        case measure => simp [intOf]; omega
    · have hkn : k = ns.length := by omega
      have HKN := Lib.hid hkn
      have HOWN := Lib.hid hown
      clear hkn hown
      go_wp2_with fail
      go_ret
      refine ⟨_, rfl, ?_, hb⟩
      have h := HOWN.out
      rwa [HKN.out, List.take_length] at h
end Go.Proofs.Ytcbabfndfikejaa
