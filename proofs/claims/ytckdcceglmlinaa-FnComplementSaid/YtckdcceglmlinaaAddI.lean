/- The walk of addInterval. Condition: the bound on the number of ranges. -/
import Derived.Test.YtckdcceglmlinaaKeep
namespace Go.Proofs.Ytckdcceglmlinaa
open Go.RowKit
set_option linter.unusedSimpArgs false

theorem neqNil70 (w : World) (a : Option Addr) (n c n' c' : Nat) : (binOp .neq 70 (.slice a n c) (.slice none n' c')).run Try.prog w = .ok (.bool (!a.isNone)) w := run_neq_slice_nil_any w 70 _ a n c n' c' Try.underlying70
theorem eqlNil70 (w : World) (a : Option Addr) (n c n' c' : Nat) : (binOp .eql 70 (.slice a n c) (.slice none n' c')).run Try.prog w = .ok (.bool a.isNone) w := Lib.run_eql_slice_nil w 70 _ a n c n' c' Try.underlying70

set_option maxRecDepth 20000 in
set_option maxHeartbeats 4000000 in
theorem addInterval_nil (base g : Nat) (a b : Int) (w : World) (hblk : Blk w g 72 #[.slice none 0 0, .bool false]) (hbg : base ≤ g) :
    Calls Try.prog 55 #[.pointer (some ⟨g, 0, none⟩), .agg #[.int .i64 a, .int .i64 b]] w (SetPost base g none [(a, b)] w) := by
  obtain ⟨i0, hi0, hz0, hz1, hz2⟩ := info_parts info68
  have c0 : w.cell? ⟨g, 0, none⟩ = some (.slice none 0 0) := hblk.cell 0
  have f0 : w.frozen? ⟨g, 0, none⟩ = false := hblk.frozen 0
  have hgl := hblk.lt
  have HK := Lib.hid hblk
  clear hblk
  have q1 := eqlNil70
  obtain ⟨W2, hr, hown, hgr⟩ := run_makeSlice_full (P := Try.prog) (w.alloc (Obj.cells #[Value.int IntKind.i64 a, Value.int IntKind.i64 b] 68)) base 70 68 i0 _ 2 Try.underlying70 hi0 hz0 hz1 .i64 .i64 0 (by decide) (by simp) (by simp [maxLen]) (by simp; omega)
  have hr' : (Instr.makeSlice 70 (.int .i64 0) (.int .i64 0)).run Try.prog (w.alloc (Obj.cells #[Value.int IntKind.i64 a, Value.int IntKind.i64 b] 68)) = .ok (.slice (some ⟨w.heap.size + 1, 0, none⟩) 0 0) W2 := by
    have := hr; simp at this; exact this
  have hown' : W2.ownsRow base 68 2 (.slice (some ⟨w.heap.size + 1, 0, none⟩) 0 0) 0 (flat []) := by
    have := hown; simp at this; simpa [madeCells, flat] using this
  have hb2 : Below w.heap.size w W2 := ((Below.refl _ _).alloc (Nat.le_refl _) _).grown hgr (by simp) (fun x hx => by simp at hx)
  have hb2' : Below (w.alloc (Obj.cells #[Value.int IntKind.i64 a, Value.int IntKind.i64 b] 68)).heap.size (w.alloc (Obj.cells #[Value.int IntKind.i64 a, Value.int IntKind.i64 b] 68)) W2 := ⟨hgr.os, hgr.tape, hgr.output, hgr.size, fun k hk => hgr.block k hk (by simp)⟩
  have d0 : W2.cell? ⟨w.heap.size, 0, none⟩ = some (.int .i64 a) := cell_bel (by simp [World.cell?_alloc_new]) hb2'
  have d1 : W2.cell? ⟨w.heap.size, 1, none⟩ = some (.int .i64 b) := cell_bel (by simp [World.cell?_alloc_new]) hb2'
  have hsz := hown'.form
  have HK2 := Lib.hid (HK.out.below hb2 hgl)
  have c2 : W2.cell? ⟨g, 0, none⟩ = some (.slice none 0 0) := HK2.out.cell 0
  have f2 : W2.frozen? ⟨g, 0, none⟩ = false := HK2.out.frozen 0
  have HB2 := Lib.hid hb2
  have HO2 := Lib.hid hown'
  clear hr hown hgr hown' hb2 hb2' hsz
  go_enter Try.func55, Try.ntmps55
  go_wp2_with fail
  obtain ⟨W0, hW0⟩ : ∃ W0, W0 = W2.setCell ⟨g, 0, none⟩ (.slice (some ⟨w.heap.size + 1, 0, none⟩) 0 0) := ⟨_, rfl⟩
  have hgs : g ≠ w.heap.size := by omega
  have hgs1 : g ≠ w.heap.size + 1 := by omega
  have HBK := Lib.hid (show Blk W0 g 72 #[.slice (some ⟨w.heap.size + 1, 0, none⟩) 0 0, .bool false] by rw [hW0]; exact HK2.out.set_ 0 _)
  have HO := Lib.hid (show W0.ownsRow base 68 2 (.slice (some ⟨w.heap.size + 1, 0, none⟩) 0 0) 0 (flat []) by rw [hW0]; exact own_set_other HO2.out HK2.out (by decide) 0 _)
  have e0 : W0.cell? ⟨g, 0, none⟩ = some (.slice (some ⟨w.heap.size + 1, 0, none⟩) 0 0) := HBK.out.cell 0
  have e1 : W0.cell? ⟨w.heap.size, 0, none⟩ = some (.int .i64 a) := by rw [hW0, World.cell?_setCell_other _ _ _ _ (by intro h; injection h with h; exact hgs h)]; exact d0
  have e2 : W0.cell? ⟨w.heap.size, 1, none⟩ = some (.int .i64 b) := by rw [hW0, World.cell?_setCell_other _ _ _ _ (by intro h; injection h with h; exact hgs h)]; exact d1
  have HKP := Lib.hid (show KeepS w W0 g none (some (w.heap.size + 1)) by
    rw [hW0]
    have k1 := (KeepS.of_below HB2.out g none).set 0 (.slice (some ⟨w.heap.size + 1, 0, none⟩) 0 0)
    exact ⟨k1.os, k1.tape, k1.output, k1.size, k1.block, .inr ⟨_, rfl, by omega⟩⟩)
  have hs0 : w.heap.size < W0.heap.size := World.block_lt_of_cell? _ _ e1
  have hg0 := HBK.out.lt
  rw [← hW0]
  clear hW0 d0 d1 c2 f2 hr' c0 f0 HK2 HO2 HB2
  refine wp_region_order (fun w' => W0.grownBy w' (some (w.heap.size + 1))) [0, 1, 2, 3, 4, 5] [6, 7, 8, 9, 10] (by kernel_rfl) (by kernel_rfl) (grown_of_bel (below_drew' (Below.refl _ _))) ?_
  repeat
    apply TakesThen.cons rfl rfl
    · intro w' hw'
      have x0 := hw'.cell e0 (by simp; omega)
      have x1 := hw'.cell e1 (by simp)
      have x2 := hw'.cell e2 (by simp)
      go_simp
      with_reducible rfl
    try simp only [Act.put, List.setIfInBounds_toArray, List.set_cons_zero, List.set_cons_succ]
  refine TakesThen.nil ?_
  refine Chain.step rfl rfl (fun K hK => ?_)
  go_simp
  have hX := below_alloc' (below_drew' (Below.refl _ W0)) (Obj.cells #[Value.int .i64 a, Value.int .i64 b] 68)
  refine hK _ _ (grown_of_bel hX) ?_
  clear hK
  refine Chain.step rfl rfl (fun K hK => ?_)
  refine wp_append_any _ (.tmp 21) (.tmp 23) 70 rfl base 68 i0 _ 2 16 Try.underlying70 hi0 hz0 hz1 (by assumption) rfl (by omega) (.slice (some ⟨w.heap.size + 1, 0, none⟩) 0 0) 0 (flat []) rfl (ownsRow_ext HO.out hX) _ _ 1 1 _ rfl (reads_new (by simp) rfl) (by simp [Value.oneCell']) (by simp only [maxLen]; omega) (by omega) (Nat.le_trans (by omega) hX.size) ?_
  intro v3 w3 hown3 hgr hat
  obtain ⟨A3, c3, rfl, _⟩ := own_slice hown3
  have hgr' := grown_grown (grown_of_bel hX) hgr
  have HB3 := Lib.hid (HBK.out.grown hgr' (fun h => hgs1 (Option.some.inj h)))
  have HS := Lib.hid (setAt_store (L := [(a, b)]) HB3.out hbg hown3 rfl)
  have HK3 := Lib.hid ((HKP.out.grown hgr' (r2 := (Value.slice A3 (0 + 1) c3).ownBlock) (by
    rcases hat with h | h
    · exact .inl h
    · exact .inr ⟨_, h, by simp⟩)).set 0 (.slice A3 (0 + 1) c3))
  have x0 := HB3.out.cell 0
  have x1 := HB3.out.frozen 0
  refine hK _ _ hgr' ?_
  clear hK hown3 hat hgr
  try simp only [Act.put, List.setIfInBounds_toArray, List.set_cons_zero, List.set_cons_succ]
  refine Chain.step rfl rfl (fun K hK => ?_)
  go_simp
  refine hK _ _ hgr' ?_
  clear hK
  try simp only [Act.put, List.setIfInBounds_toArray, List.set_cons_zero, List.set_cons_succ]
  refine Chain.step rfl rfl (fun K hK => ?_)
  go_simp
  refine hK _ _ hgr' ?_
  clear hK
  try simp only [Act.put, List.setIfInBounds_toArray, List.set_cons_zero, List.set_cons_succ]
  refine Chain.last (by kernel_rfl) rfl rfl (fun K hK => ?_)
  go_simp
  refine hK _ _ ?_
  clear hK
  refine NoPanic.normal ?_
  go_wp2_with fail
  go_must (skip)
  go_end0
  exact ⟨_, rfl, HS.out, HK3.out⟩
end Go.Proofs.Ytckdcceglmlinaa
