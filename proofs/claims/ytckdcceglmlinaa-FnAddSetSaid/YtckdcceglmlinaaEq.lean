/- The walks of Equals on sets, and of the reference's equality of ranges. Condition: none but the bound on the lengths. -/
import Derived.Test.YtckdcceglmlinaaRead
namespace Go.Proofs.Ytckdcceglmlinaa
open Go.RowKit
set_option linter.unusedSimpArgs false

theorem below_drewN' {a b : World} (h : Below a.heap.size a b) (n : Nat) : Below a.heap.size a (b.drewN n) := by
  refine ⟨h.os, h.tape, h.output, h.size, h.block⟩
def eqS (L M : List Rg) : Bool := decide (L = M)
theorem eqS_true {L M : List Rg} (h : L = M) : eqS L M = true := decide_eq_true h
theorem eqS_false {L M : List Rg} (h : L ≠ M) : eqS L M = false := decide_eq_false h
theorem SetR.drewN {w : World} {g : Nat} {L : List Rg} (h : SetR w g L) (n : Nat) : SetR (w.drewN n) g L := h

set_option maxHeartbeats 1000000 in
theorem equals_any (g g' : Nat) (L M : List Rg) (w : World) (h : SetR w g L) (h' : SetR w g' M) (hl' : M.length ≤ 100) :
    Calls Try.prog 26 #[.pointer (some ⟨g, 0, none⟩), .pointer (some ⟨g', 0, none⟩)] w (BelPost (.bool (eqS L M)) w) := by
  obtain ⟨A, c, h1, h2⟩ := h
  obtain ⟨A', c', h3, h4⟩ := h'
  have c0 : w.cell? ⟨g, 0, none⟩ = some (.slice A L.length c) := h1.cell 0
  have c1 : w.cell? ⟨g', 0, none⟩ = some (.slice A' M.length c') := h3.cell 0
  have H2 := Lib.hid h2
  have H4 := Lib.hid h4
  clear h1 h2 h3 h4
  by_cases hll : L.length = M.length
  · rw [hll] at c0
    have HLL := Lib.hid hll
    clear hll
    go_enter Try.func26, Try.ntmps26
    go_wp2_with fail
    go_quiet (fail)
    go_wp2_with fail
    obtain ⟨wo, hwo⟩ : ∃ wo : World, wo = w.drewN nq := ⟨_, rfl⟩
    have hbo : Below w.heap.size w wo := by rw [hwo]; exact below_drewN' (Below.refl _ _) _
    rw [← hwo]
    clear hwo
    go_loopw [23] (fun i wr => ∃ k : Nat, k ≤ M.length ∧ i = .int .i64 k ∧ Below w.heap.size w wr ∧ Hid (L.take k = M.take k)) (fun i _ => M.length - (intOf i).toNat)
    case atStart => exact ⟨0, Nat.zero_le _, rfl, hbo, Lib.hid rfl⟩
    case round =>
      obtain ⟨k, hk, rfl, hb, HT⟩ := hrel
      have c0' := cell_bel c0 hb
      have c1' := cell_bel c1 hb
      by_cases hlt : k < M.length
      · have hlt' : k < L.length := by rw [HLL.out]; exact hlt
        have hkr := List.getElem?_eq_getElem hlt'
        have hks := List.getElem?_eq_getElem hlt
        generalize L[k] = r at *
        generalize M[k] = s at *
        obtain ⟨b, off, rfl, hbl, ca, cb⟩ := (H2.out.ext hb).rg hkr
        obtain ⟨b', off', rfl, hbl', ca', cb'⟩ := (H4.out.ext hb).rg hks
        have HKR := Lib.hid hkr
        have HKS := Lib.hid hks
        have hbs := hb.size
        clear hkr hks hlt'
        obtain ⟨p, q⟩ := r
        obtain ⟨p', q'⟩ := s
        have HB := Lib.hid (below_alloc' hb (Obj.cells #[Value.int IntKind.i64 p, Value.int IntKind.i64 q] 68))
        simp only at ca cb ca' cb'
        by_cases hp : p = p'
        · subst hp
          by_cases hq : q = q'
          · subst hq
            go_wp2_with fail
            obtain ⟨W0, hW0⟩ : ∃ W0, W0 = wr.alloc (Obj.cells #[Value.int IntKind.i64 p, Value.int IntKind.i64 q] 68) := ⟨_, rfl⟩
            have d0 : W0.cell? ⟨wr.heap.size, 0, none⟩ = some (.int .i64 p) := by rw [hW0]; simp [World.cell?_alloc_new]
            have d1 : W0.cell? ⟨wr.heap.size, 1, none⟩ = some (.int .i64 q) := by rw [hW0]; simp [World.cell?_alloc_new]
            have d2 : W0.cell? ⟨g', 0, none⟩ = some (.slice (some ⟨b', off', none⟩) M.length c') := by rw [hW0]; exact cell_alloc c1' _
            have d3 : W0.cell? ⟨b', off' + k * 2, none⟩ = some (.int .i64 p) := by rw [hW0]; exact cell_alloc ca' _
            have d4 : W0.cell? ⟨b', off' + k * 2 + 1, none⟩ = some (.int .i64 q) := by rw [hW0]; exact cell_alloc cb' _
            clear ca cb ca' cb' c0' c1' hb
            rw [← hW0] at HB ⊢
            clear hW0
            go_quiet (fail)
            go_wp2_with fail
            go_roundw
            case rel => exact ⟨k + 1, by omega, by go_num, below_drewN' HB.out _, Lib.hid (by rw [take_snoc' _ _ _ HKR.out, take_snoc' _ _ _ HKS.out, HT.out])⟩
            case measure => simp [intOf]; omega
          · have hq' : (q != q') = true := by rw [bne_iff_ne]; exact hq
            have HN := Lib.hid (show eqS L M = false from eqS_false (fun e => hq (by have := HKR.out; rw [e, HKS.out] at this; cases this; rfl)))
            clear hq
            go_wp2_with fail
            obtain ⟨W0, hW0⟩ : ∃ W0, W0 = wr.alloc (Obj.cells #[Value.int IntKind.i64 p, Value.int IntKind.i64 q] 68) := ⟨_, rfl⟩
            have d0 : W0.cell? ⟨wr.heap.size, 0, none⟩ = some (.int .i64 p) := by rw [hW0]; simp [World.cell?_alloc_new]
            have d1 : W0.cell? ⟨wr.heap.size, 1, none⟩ = some (.int .i64 q) := by rw [hW0]; simp [World.cell?_alloc_new]
            have d2 : W0.cell? ⟨g', 0, none⟩ = some (.slice (some ⟨b', off', none⟩) M.length c') := by rw [hW0]; exact cell_alloc c1' _
            have d3 : W0.cell? ⟨b', off' + k * 2, none⟩ = some (.int .i64 p) := by rw [hW0]; exact cell_alloc ca' _
            have d4 : W0.cell? ⟨b', off' + k * 2 + 1, none⟩ = some (.int .i64 q') := by rw [hW0]; exact cell_alloc cb' _
            clear ca cb ca' cb' c0' c1' hb
            rw [← hW0] at HB ⊢
            clear hW0
            go_quiet (fail)
            go_wp2_with fail
            go_ret
            exact ⟨by rw [HN.out]; rfl, below_drewN' HB.out _⟩
        · have hp' : (p != p') = true := by rw [bne_iff_ne]; exact hp
          have HN := Lib.hid (show eqS L M = false from eqS_false (fun e => hp (by have := HKR.out; rw [e, HKS.out] at this; cases this; rfl)))
          clear hp
          go_wp2_with fail
          obtain ⟨W0, hW0⟩ : ∃ W0, W0 = wr.alloc (Obj.cells #[Value.int IntKind.i64 p, Value.int IntKind.i64 q] 68) := ⟨_, rfl⟩
          have d0 : W0.cell? ⟨wr.heap.size, 0, none⟩ = some (.int .i64 p) := by rw [hW0]; simp [World.cell?_alloc_new]
          have d1 : W0.cell? ⟨wr.heap.size, 1, none⟩ = some (.int .i64 q) := by rw [hW0]; simp [World.cell?_alloc_new]
          have d2 : W0.cell? ⟨g', 0, none⟩ = some (.slice (some ⟨b', off', none⟩) M.length c') := by rw [hW0]; exact cell_alloc c1' _
          have d3 : W0.cell? ⟨b', off' + k * 2, none⟩ = some (.int .i64 p') := by rw [hW0]; exact cell_alloc ca' _
          have d4 : W0.cell? ⟨b', off' + k * 2 + 1, none⟩ = some (.int .i64 q') := by rw [hW0]; exact cell_alloc cb' _
          clear ca cb ca' cb' c0' c1' hb
          rw [← hW0] at HB ⊢
          clear hW0
          go_quiet (fail)
          go_wp2_with fail
          go_ret
          exact ⟨by rw [HN.out]; rfl, below_drewN' HB.out _⟩
      · have hkn : k = M.length := by omega
        have HN := Lib.hid (show eqS L M = true from eqS_true (by have := HT.out; rw [hkn, List.take_length, List.take_of_length_le (by rw [HLL.out]; exact Nat.le_refl _)] at this; exact this))
        clear hkn
        go_wp2_with fail
        go_ret
        exact ⟨by rw [HN.out]; rfl, hb⟩
  · have hne : ((L.length : Int) != (M.length : Int)) = true := by rw [bne_iff_ne]; omega
    have HN := Lib.hid (show eqS L M = false from eqS_false (fun e => hll (by rw [e])))
    clear hll
    go_enter Try.func26, Try.ntmps26
    go_wp2_with fail
    go_quiet (fail)
    go_wp2_with fail
    go_ret
    exact ⟨by rw [HN.out]; rfl, below_drewN' (Below.refl _ _) _⟩
end Go.Proofs.Ytckdcceglmlinaa
