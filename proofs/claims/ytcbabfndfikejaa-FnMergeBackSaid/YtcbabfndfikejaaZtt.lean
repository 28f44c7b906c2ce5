/- The walk of zzTable. Condition: the choice lies in memory and is well made, and what is below is at most 1000 choices. -/
import Derived.Test.YtcbabfndfikejaaZt
import Derived.Laws.EntriesVeiled
namespace Go.Proofs.Ytcbabfndfikejaa
open Go.RowKit
set_option linter.unusedSimpArgs false

theorem add_all (n : Nat) : AddTo n := by
  induction n with
  | zero => intro w0 S X B gk ga gt m v K ms p k f w h; exact absurd h (by omega)
  | succ n ih => exact add_step n ih
theorem TblX.tbl {w : World} {X : Nat → Prop} {B : Nat} {v : Value} {ms : List Nd} (h : TblX w X B v ms) : ∃ A c, v = .slice A ms.length c ∧ Tbl w w.heap.size A ms := by
  obtain ⟨xs, h1, h2⟩ := h
  obtain ⟨A, c, rfl, hr⟩ := own_slice h1
  refine ⟨A, c, rfl, xs, hr, fun i nd hi => ?_⟩
  obtain ⟨A1, c1, A2, c2, e1, e2, r1, r2⟩ := h2 i nd hi
  exact ⟨_, _, e1, e2, A1, c1, A2, c2, rfl, rfl, r1.reads, r2.reads⟩
def TabPost (S : List Addr) (f : Tops) (w : World) (e : Ending) (w' : World) : Prop := ∃ A c ms, e = .returned (.slice A ms.length c) ∧ Tbl w' w'.heap.size A ms ∧ TG ms ∧ 0 < ms.length ∧ ms.length ≤ S.length ∧ tr ms (ms.length - 1) = (kindOf f.len, nrm f) ∧ Below w.heap.size w w'
theorem mk119 (w : World) : (Instr.makeMap 119 none).run Try.prog w = .ok (.map (some w.heap.size)) (w.alloc (.map #[] 0)) := rfl
set_option maxHeartbeats 1000000 in
theorem zzTable_any (S : List Addr) (p : Addr) (k : Nat) (f : Tops) (w : World) (hR : Rep w NoX p k f) (hW : Wf k f) (hsrt : f.srt) (hpS : p ∈ S) (hCl : Cl w S) (hS : S.length ≤ 1000) :
    Calls Try.prog 58 #[.pointer (some p)] w (TabPost S f w) := by
  have hmk := mk119
  have HR := Lib.hid hR
  have HCL := Lib.hid hCl
  clear hR hCl
  obtain ⟨W0, hW0⟩ : ∃ W0, W0 = ((((w.alloc (Obj.cells #[Value.slice none 0 0] 59)).alloc (Obj.map #[] 0)).alloc (Obj.cells #[Value.map (some (w.heap.size + 1))] 119)).alloc (Obj.cells #[Value.nilFunc] 120)) := ⟨_, rfl⟩
  have hb0 : Below w.heap.size w W0 := by rw [hW0]; exact below_alloc' (below_alloc' (below_alloc' (below_alloc' (Below.refl _ _) _) _) _) _
  have h0 : W0.heap[w.heap.size]? = some (.cells #[.slice none 0 0] 59 (0, 0)) := by
    rw [hW0]; exact (heap_old' (by simp; try omega)).trans ((heap_old' (by simp; try omega)).trans ((heap_old' (by simp; try omega)).trans (heap_new' rfl)))
  have h1 : W0.heap[w.heap.size + 1]? = some (.map #[] 0) := by
    rw [hW0]; exact (heap_old' (by simp; try omega)).trans ((heap_old' (by simp; try omega)).trans (heap_new' (by simp; try omega)))
  have h2 : W0.heap[w.heap.size + 2]? = some (.cells #[.map (some (w.heap.size + 1))] 119 (0, 0)) := by
    rw [hW0]; exact (heap_old' (by simp; try omega)).trans (heap_new' (by simp; try omega))
  have h3 : W0.heap[w.heap.size + 1 + 1 + 1]? = some (.cells #[.nilFunc] 120 (0, 0)) := by
    rw [hW0]; exact heap_new' (by simp)
  have hsz : W0.heap.size = w.heap.size + 4 := by rw [hW0]; simp
  have c3 := cell_of h3 0
  have fz3 : W0.frozen? ⟨w.heap.size + 1 + 1 + 1, 0, none⟩ = false := Blk.frozen h3 0
  simp at c3
  obtain ⟨W1, hW1⟩ : ∃ W1, W1 = W0.setCell ⟨w.heap.size + 1 + 1 + 1, 0, none⟩ (.func (.func 83) #[] #[.pointer (some ⟨w.heap.size + 1 + 1, 0, none⟩), .pointer (some ⟨w.heap.size + 1 + 1 + 1, 0, none⟩), .pointer (some ⟨w.heap.size, 0, none⟩)]) := ⟨_, rfl⟩
  have k0 : W1.heap[w.heap.size]? = some (.cells #[.slice none 0 0] 59 (0, 0)) := by rw [hW1, Below.heap_setCell W0 _ _ _ (by simp; omega)]; exact h0
  have k1 : W1.heap[w.heap.size + 1]? = some (.map #[] 0) := by rw [hW1, Below.heap_setCell W0 _ _ _ (by simp)]; exact h1
  have k2 : W1.heap[w.heap.size + 1 + 1]? = some (.cells #[.map (some (w.heap.size + 1))] 119 (0, 0)) := by rw [hW1, Below.heap_setCell W0 _ _ _ (by simp)]; exact h2
  have k3 : W1.heap[w.heap.size + 1 + 1 + 1]? = some (.cells #[addFn (w.heap.size + 1 + 1) (w.heap.size + 1 + 1 + 1) w.heap.size] 120 (0, 0)) := by
    have := Blk.set_ h3 0 (addFn (w.heap.size + 1 + 1) (w.heap.size + 1 + 1 + 1) w.heap.size)
    unfold Blk at this
    rw [hW1]
    simp at this
    exact this
  have hb1 : Below w.heap.size w W1 := by rw [hW1]; exact hb0.setCell (p := ⟨w.heap.size + 1 + 1 + 1, 0, none⟩) (by simp; omega) _
  have hsz1 : W1.heap.size = w.heap.size + 4 := by rw [hW1]; simpa using hsz
  have cf := cell_of k3 0
  have hZM : ZMem W1 NoX w.heap.size (w.heap.size + 1 + 1) (w.heap.size + 1 + 1 + 1) w.heap.size (w.heap.size + 1) (.slice none 0 0) [] [] :=
    ⟨k2, k3, k0, ⟨[], World.ownsRow_nil _ _ _ _, fun i nd hi => by simp at hi⟩, ⟨#[], 0, k1, rfl⟩⟩
  have hZP : ZP w S [] [] := ⟨rfl, List.nodup_nil, (fun q hq => by cases hq), (fun i nd hi => by simp at hi), (fun j q hj => by simp at hj)⟩
  have HC := Lib.hid (add_all (f.size + 1) w S NoX w.heap.size (w.heap.size + 1 + 1) (w.heap.size + 1 + 1 + 1) w.heap.size (w.heap.size + 1) (.slice none 0 0) [] [] p k f W1 (Nat.lt_succ_self _) hZM hZP (fun y hy => by cases hy) (Stay.of_below hb1) HR.out hW hsrt hpS HCL.out hS (by omega))
  have HB1 := Lib.hid hb1
  have hW0' := hW0.symm
  have hW1' := hW1.symm
  simp only [addFn] at cf
  simp at cf
  clear h0 h1 h2 h3 k0 k1 k2 k3 hZM hZP hb0 hb1 hW0 hW1
  go_enter Try.func58, Try.ntmps58
  go_wp2_with fail
  refine HC.out.mono ?_
  rintro e w2 ⟨i, v', K', ms', rfl, hM, hP, _, _, hi, hlast, _, hch, _⟩
  have hl := hlast (by simp)
  obtain ⟨A, c, rfl, htb⟩ := hM.tbl.tbl
  have ct := cell_of hM.ht 0
  simp at ct
  have HFIN : Hid (TabPost S f w (.returned (.slice A ms'.length c)) w2) := Lib.hid (by
    have hlen := hP.len
    refine ⟨A, c, ms', rfl, htb, hP.good, by omega, by rw [← hlen]; exact nodup_sub _ _ hP.nd hP.sub, ?_, ?_⟩
    · obtain ⟨k2, f2, h1, h2⟩ := hP.rep i p hi
      obtain ⟨_, rfl⟩ := h1.unique HR.out
      rw [show ms'.length - 1 = i by omega]
      exact h2
    · refine HB1.out.trans (hch.below (fun j hj => ?_) (by omega))
      rcases hj with h | h | h
      · omega
      · omega
      · cases h)
  clear hM hP hi hlast hch htb HC
  go_wp2_with fail
  go_ret
  exact HFIN.out
end Go.Proofs.Ytcbabfndfikejaa
