/- What reads a choice: its states, whether it is empty; the equality of rows of numbers. Condition: the choices lie in memory and are well made. -/
import Derived.Test.YtcbabfndfikejaaEmp
import Derived.Lib.SliceRun
import Derived.WalkSpells
import Derived.LaidEql
import Derived.LaidEqlPtr
import Derived.Deep.DeepMust
namespace Go.Proofs.Ytcbabfndfikejaa
open Go.RowKit
set_option linter.unusedSimpArgs false

/-- From w to w' only draws. -/
def Dr (w w' : World) : Prop := ∃ n, w' = w.drewN n
theorem Dr.refl (w : World) : Dr w w := ⟨0, rfl⟩
theorem Dr.drewN {w a : World} (h : Dr w a) (n : Nat) : Dr w (a.drewN n) := by obtain ⟨m, rfl⟩ := h; exact ⟨m + n, World.drewN_drewN ..⟩
theorem Dr.drew {w a : World} (h : Dr w a) : Dr w a.drew := h.drewN 1
theorem Dr.trans {a b c : World} (h : Dr a b) (k : Dr b c) : Dr a c := by obtain ⟨m, rfl⟩ := k; exact h.drewN m
theorem Dr.below {w w' : World} (h : Dr w w') : Below w.heap.size w w' := by obtain ⟨n, rfl⟩ := h; exact ⟨rfl, rfl, rfl, Nat.le_refl _, fun _ _ => rfl⟩
theorem Dr.stay {w w' : World} (h : Dr w w') : Stay w w' := Stay.of_below h.below
theorem Dr.heap {w w' : World} (h : Dr w w') : w'.heap = w.heap := by obtain ⟨n, rfl⟩ := h; rfl
/-- A truth value is handed back; there were but draws. -/
def EqPost (r : Bool) (w : World) (e : Ending) (w' : World) : Prop := e = .returned (.bool r) ∧ Dr w w'
theorem EqPost.quiet {f : FuncId} {args : Array Value} {w : World} {n : Nat} {r : Bool} (h : Calls Try.prog f args (w.drewN n) (EqPost r (w.drewN n))) : Calls Try.prog f args (w.drewN n) fun e w'' => e = .returned (.bool r) ∧ ∃ m, w'' = w.drewN m :=
  Calls.quiet_of (h.mono fun _ _ ⟨a, b⟩ => ⟨a, b⟩)

/-- The kind of a choice fits its tops. -/
def kindOk (k : Nat) (f : Tops) : Prop := (k = 0 ∧ f = .nil) ∨ (k = 1 ∧ f.len = 1) ∨ (k = 2 ∧ 0 < f.len ∧ f.len ≤ 1000)
def Tops.wf : Tops → Prop
  | .nil => True
  | .cons s k sub r => (0 ≤ s ∧ s ≤ 1000) ∧ kindOk k sub ∧ sub.wf ∧ r.wf
def Wf (k : Nat) (f : Tops) : Prop := kindOk k f ∧ f.wf
theorem Tops.wf_sts : ∀ {f : Tops}, f.wf → ∀ s ∈ f.sts, 0 ≤ s ∧ s ≤ 1000
  | .nil, _, s, hs => by simp [Tops.sts] at hs
  | .cons s k sub r, h, x, hx => by
    simp only [Tops.sts, List.mem_cons] at hx
    rcases hx with rfl | hx
    · exact h.1
    · exact Tops.wf_sts h.2.2.2 x hx

theorem isEmpty0 (X : Nat → Prop) (p : Addr) (f : Tops) (w : World) (h : Rep w X p 0 f) : Calls Try.prog 69 #[.pointer (some p)] w (BoolPost true w) := by
  obtain ⟨g, rfl, _, hg⟩ := h.cells0
  have c1 : w.cell? ⟨g, 1, none⟩ = some (.int .i64 0) := cell_of hg 1
  clear h hg
  go_enter Try.func69, Try.ntmps69
  go_wp2
  go_ret
  exact ⟨rfl, rfl⟩
theorem isEmpty1 (X : Nat → Prop) (p : Addr) (f : Tops) (w : World) (h : Rep w X p 1 f) : Calls Try.prog 69 #[.pointer (some p)] w (BoolPost false w) := by
  obtain ⟨g, s, q, k, sub, rfl, rfl, _, hg⟩ := h.cells1
  have c1 : w.cell? ⟨g, 1, none⟩ = some (.int .i64 1) := cell_of hg 1
  clear h hg
  go_enter Try.func69, Try.ntmps69
  go_wp2
  go_ret
  exact ⟨rfl, rfl⟩
theorem isEmpty2 (X : Nat → Prop) (p : Addr) (f : Tops) (w : World) (h : Rep w X p 2 f) (hl : 0 < f.len) (hs : ∀ s ∈ f.sts, 0 ≤ s ∧ s ≤ 1000) : Calls Try.prog 69 #[.pointer (some p)] w (BoolPost false w) := by
  obtain ⟨g, A, c, A', c', qs, rfl, _, _, _, hg, _, hr⟩ := h.cells2
  obtain ⟨b, off, u, rfl, _, hu, hc⟩ := hr.reads.at1 (k := 0) (by omega)
  obtain ⟨s, hs1, rfl⟩ := ints_at hu
  have hs' : s ≤ 1000 := (hs s (List.mem_of_getElem? hs1)).2
  have c1 : w.cell? ⟨g, 1, none⟩ = some (.int .i64 2) := cell_of hg 1
  have c5 : w.cell? ⟨g, 5, none⟩ = some (.slice (some ⟨b, off, none⟩) f.len c') := cell_of hg 5
  rw [Nat.add_zero] at hc
  have hne : (s == 2147483647) = false := by rw [beq_eq_false_iff_ne]; omega
  clear h hg hs hs' hs1 hu hr
  go_enter Try.func69, Try.ntmps69
  go_wp2
  go_ret
  exact ⟨rfl, rfl⟩
/-- isEmpty -/
theorem isEmpty_any (X : Nat → Prop) (p : Addr) (k : Nat) (f : Tops) (w : World) (h : Rep w X p k f) (hw : Wf k f) : Calls Try.prog 69 #[.pointer (some p)] w (BoolPost (decide (k = 0)) w) := by
  rcases hw.1 with ⟨rfl, rfl⟩ | ⟨rfl, h1⟩ | ⟨rfl, h1, h2⟩
  · exact isEmpty0 X p _ w h
  · exact isEmpty1 X p _ w h
  · exact isEmpty2 X p _ w h h1 (Tops.wf_sts hw.2)

theorem getReturnState1 (X : Nat → Prop) (p : Addr) (s : Int) (k : Nat) (sub : Tops) (i : Int) (w : World) (h : Rep w X p 1 (.cons s k sub .nil)) : Calls Try.prog 67 #[.pointer (some p), .int .i64 i] w (IntPost s w) := by
  obtain ⟨g, s', q, k', sub', rfl, he, _, hg⟩ := h.cells1
  cases he
  have c1 : w.cell? ⟨g, 1, none⟩ = some (.int .i64 1) := cell_of hg 1
  have c3 : w.cell? ⟨g, 3, none⟩ = some (.int .i64 s) := cell_of hg 3
  clear h hg
  go_enter Try.func67, Try.ntmps67
  go_wp2
  go_ret
  exact ⟨rfl, rfl⟩
theorem getReturnState2 (X : Nat → Prop) (p : Addr) (f : Tops) (i : Nat) (s : Int) (w : World) (h : Rep w X p 2 f) (hi : f.sts[i]? = some s) : Calls Try.prog 67 #[.pointer (some p), .int .i64 i] w (IntPost s w) := by
  obtain ⟨g, A, c, A', c', qs, rfl, _, _, _, hg, _, hr⟩ := h.cells2
  have hlt : i < f.len := by rw [← Tops.sts_length]; exact (List.getElem?_eq_some_iff.1 hi).1
  obtain ⟨b, off, u, rfl, _, hu, hc⟩ := hr.reads.at1 (k := i) hlt
  obtain ⟨s', hs1, rfl⟩ := ints_at hu
  rw [hi] at hs1; cases hs1
  have c1 : w.cell? ⟨g, 1, none⟩ = some (.int .i64 2) := cell_of hg 1
  have c5 : w.cell? ⟨g, 5, none⟩ = some (.slice (some ⟨b, off, none⟩) f.len c') := cell_of hg 5
  clear h hg hi hu hr
  go_enter Try.func67, Try.ntmps67
  go_wp2
  go_ret
  exact ⟨rfl, rfl⟩

theorem eqlNil22 (w : World) (a : Option Addr) (n c n' c' : Nat) : (binOp .eql 22 (.slice a n c) (.slice none n' c')).run Try.prog w = .ok (.bool a.isNone) w := Lib.run_eql_slice_nil w 22 _ a n c n' c' Try.underlying22
theorem eqlNil73 (w : World) (a : Option Addr) (n c n' c' : Nat) : (binOp .eql 73 (.slice a n c) (.slice none n' c')).run Try.prog w = .ok (.bool a.isNone) w := Lib.run_eql_slice_nil w 73 _ a n c n' c' Try.underlying73

set_option maxHeartbeats 1000000 in
/-- the equality of rows of numbers that have some -/
theorem intSlicesEqual_any (A A' : Option Addr) (c c' : Nat) (L M : List Int) (w : World) (h : Reads w w.heap.size 1 A L.length (ints L)) (h' : Reads w w.heap.size 1 A' M.length (ints M)) (h0 : 0 < L.length) (h0' : 0 < M.length) (hm : L.length ≤ 1000) (hm' : M.length ≤ 1000) :
    Calls Try.prog 92 #[.slice A L.length c, .slice A' M.length c'] w (BoolPost (decide (L = M)) w) := by
  obtain ⟨b, off, u, rfl, _, _, _⟩ := h.at1 h0
  obtain ⟨b', off', u', rfl, _, _, _⟩ := h'.at1 h0'
  have H := Lib.hid h
  have H' := Lib.hid h'
  clear h h'
  have q1 := eqlNil22
  have hn1 : ((L.length : Int) == 0) = false := by rw [beq_eq_false_iff_ne]; omega
  have hn2 : ((M.length : Int) == 0) = false := by rw [beq_eq_false_iff_ne]; omega
  by_cases hll : L.length = M.length
  · have HLL := Lib.hid hll
    have hne : ((L.length : Int) != (M.length : Int)) = false := by rw [bne_eq_false_iff_eq]; omega
    clear hll
    go_enter Try.func92, Try.ntmps92
    go_wp2_with fail
    go_loop [44] (fun i => ∃ k : Nat, k ≤ L.length ∧ i = .int .i64 k ∧ Hid (L.take k = M.take k)) (fun i => L.length - (intOf i).toNat)
    case atStart => exact ⟨0, Nat.zero_le _, rfl, Lib.hid rfl⟩
    case round =>
      obtain ⟨k, hk, rfl, HT⟩ := hrel
      by_cases hlt : k < L.length
      · have hlt' : k < M.length := by have := HLL.out; omega
        obtain ⟨b1, off1, u1, e1, _, hu1, hc1⟩ := H.out.at1 hlt
        obtain ⟨b2, off2, u2, e2, _, hu2, hc2⟩ := H'.out.at1 hlt'
        cases e1; cases e2
        obtain ⟨x, hx, rfl⟩ := ints_at hu1
        obtain ⟨y, hy, rfl⟩ := ints_at hu2
        have HX := Lib.hid hx
        have HY := Lib.hid hy
        clear hu1 hu2 hx hy
        by_cases hxy : x = y
        · subst hxy
          go_wp2_with fail
          go_round
          case rel => exact ⟨k + 1, by omega, by go_num, Lib.hid (by rw [take_snoc' _ _ _ HX.out, take_snoc' _ _ _ HY.out, HT.out])⟩
          case measure => simp [intOf]; omega
        · have hxy' : (x != y) = true := by rw [bne_iff_ne]; exact hxy
          have HN := Lib.hid (show decide (L = M) = false from decide_eq_false (fun e => hxy (by have := HX.out; rw [e, HY.out] at this; cases this; rfl)))
          clear hxy
          go_wp2_with fail
          go_ret
          exact ⟨by rw [HN.out]; rfl, rfl⟩
      · have HN := Lib.hid (show decide (L = M) = true from decide_eq_true (by
          have := HT.out
          rw [List.take_of_length_le (by omega), List.take_of_length_le (by have := HLL.out; omega)] at this
          exact this))
        go_wp2_with fail
        go_ret
        exact ⟨by rw [HN.out]; rfl, rfl⟩
  · have hne : ((L.length : Int) != (M.length : Int)) = true := by rw [bne_iff_ne]; omega
    have HN := Lib.hid (show decide (L = M) = false from decide_eq_false (fun e => hll (by rw [e])))
    clear hll
    go_enter Try.func92, Try.ntmps92
    go_wp2_with fail
    go_ret
    exact ⟨by rw [HN.out]; rfl, rfl⟩
end Go.Proofs.Ytcbabfndfikejaa
