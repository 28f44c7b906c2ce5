/- The walks of what only reads a set of numbers: contains, length, first, Equals, GetIntervals, and their doors. Condition: the numbers are small. -/
import Derived.Test.YtckdcceglmlinaaSet
import Derived.Lib.SliceRun
namespace Go.Proofs.Ytckdcceglmlinaa
open Go.RowKit
set_option linter.unusedSimpArgs false

theorem getIntervals_any (g : Nat) (A : Option Addr) (n c : Nat) (w : World) (h : Blk w g 72 #[.slice A n c, .bool false]) : Calls Try.prog 46 #[.pointer (some ⟨g, 0, none⟩)] w (fun e w' => e = .returned (.slice A n c) ∧ w = w') := by
  have c0 : w.cell? ⟨g, 0, none⟩ = some (.slice A n c) := h.cell 0
  clear h
  go_enter Try.func46, Try.ntmps46
  go_wp2
  go_ret
  exact ⟨rfl, rfl⟩

def firstS : List Rg → Int
  | [] => 0
  | r :: _ => r.1
theorem first_any (g : Nat) (L : List Rg) (w : World) (h : SetR w g L) (hs : Sm L) : Calls Try.prog 44 #[.pointer (some ⟨g, 0, none⟩)] w (fun e w' => e = .returned (.int .i64 (firstS L)) ∧ w = w') := by
  obtain ⟨A, c, h1, h2⟩ := h
  have c0 : w.cell? ⟨g, 0, none⟩ = some (.slice A L.length c) := h1.cell 0
  have hl := hs.1
  clear h1 hs
  cases L with
  | nil =>
    simp only [List.length_nil] at *
    clear h2
    go_enter Try.func44, Try.ntmps44
    go_wp2
    go_ret
    exact ⟨rfl, rfl⟩
  | cons r t =>
    obtain ⟨b, off, rfl, _, ca, cb⟩ := h2.rg (k := 0) rfl
    have ca' : w.cell? ⟨b, off, none⟩ = some (.int .i64 r.1) := by simpa using ca
    clear h2 ca cb
    simp only [List.length_cons] at *
    have hn : (((t.length + 1 : Nat) : Int) == 0) = false := by rw [beq_eq_false_iff_ne]; omega
    generalize hm : t.length + 1 = m at *
    have hm0 : 0 < m := by omega
    go_enter Try.func44, Try.ntmps44
    go_wp2
    go_ret
    exact ⟨rfl, rfl⟩

def memS (L : List Rg) (n : Int) : Bool := L.any (inR n)
theorem memS_take_succ {L : List Rg} {k : Nat} {r : Rg} (hk : L[k]? = some r) (n : Int) : memS (L.take (k + 1)) n = (memS (L.take k) n || inR n r) := by
  rw [take_snoc' _ _ _ hk]; simp [memS]

theorem contains_any (g : Nat) (L : List Rg) (n : Int) (w : World) (h : SetR w g L) (hs : Sm L) : Calls Try.prog 42 #[.pointer (some ⟨g, 0, none⟩), .int .i64 n] w (BelPost (.bool (memS L n)) w) := by
  obtain ⟨A, c, h1, h2⟩ := h
  have c0 : w.cell? ⟨g, 0, none⟩ = some (.slice A L.length c) := h1.cell 0
  have hl := hs.1
  have HNIL : ∀ (w : World) (a : Option Addr) (n c n' c' : Nat), (binOp .eql 70 (.slice a n c) (.slice none n' c')).run Try.prog w = .ok (.bool a.isNone) w := fun w a n c n' c' => Lib.run_eql_slice_nil w 70 _ a n c n' c' Try.underlying70
  have H2 := Lib.hid h2
  clear h1 hs h2
  cases A with
  | none =>
    have hL : L = [] := by
      cases L with
      | nil => rfl
      | cons r t => obtain ⟨b, off, h, _⟩ := H2.out.rg (k := 0) rfl; cases h
    subst hL
    simp only [List.length_nil] at *
    go_enter Try.func42, Try.ntmps42
    go_wp2
    go_ret
    exact ⟨rfl, Below.refl _ _⟩
  | some ad =>
    go_enter Try.func42, Try.ntmps42
    go_wp2_with fail
    go_loopw [5] (fun i wr => ∃ k : Nat, k ≤ L.length ∧ i = .int .i64 k ∧ Below w.heap.size w wr ∧ Hid (memS (L.take k) n = false)) (fun i _ => L.length - (intOf i).toNat)
    case atStart => exact ⟨0, Nat.zero_le _, rfl, Below.refl _ _, Lib.hid rfl⟩
    case round =>
      obtain ⟨k, hk, rfl, hb, hm⟩ := hrel
      have c0' := cell_bel c0 hb
      by_cases hlt : k < L.length
      · have hkr := List.getElem?_eq_getElem hlt
        generalize L[k] = r at *
        obtain ⟨b, off, hA, _, ca, cb⟩ := (H2.out.ext hb).rg hkr
        cases hA
        have HK := Lib.hid hkr
        clear hkr
        go_wp2_with fail
        refine (inContains_any r.1 r.2 n wr).mono ?_
        rintro e w' ⟨rfl, hb2⟩
        have HB := Lib.hid (below_trans hb hb2)
        have hc := cell_bel c0' hb2
        clear hb hb2 ca cb
        cases hin : inR n (r.1, r.2)
        · go_wp2_with fail
          go_roundw
          case rel => exact ⟨k + 1, by omega, by go_num, HB.out, Lib.hid (by rw [memS_take_succ HK.out, hm.out]; exact hin)⟩
          case measure => simp [intOf]; omega
        · go_wp2_with fail
          go_ret
          refine ⟨?_, HB.out⟩
          rw [show memS L n = true from List.any_eq_true.2 ⟨r, List.mem_of_getElem? HK.out, hin⟩]; rfl
      · have hkn : k = L.length := by omega
        have HM := Lib.hid (show memS L n = false by have := hm.out; rw [hkn, List.take_length] at this; exact this)
        clear hkn
        go_wp2_with fail
        go_ret
        exact ⟨by rw [HM.out]; rfl, hb⟩

/-- the numbers of ranges, counted -/
def lenS : List Rg → Int
  | [] => 0
  | r :: t => (r.2 - r.1) + lenS t
theorem lenS_snoc (L : List Rg) (r : Rg) : lenS (L ++ [r]) = lenS L + (r.2 - r.1) := by
  induction L with
  | nil => simp [lenS]
  | cons a t ih => simp only [List.cons_append, lenS, ih]; omega
theorem lenS_bound {L : List Rg} (h : Sm L) (k : Nat) : -10000 ≤ lenS (L.take k) ∧ lenS (L.take k) ≤ 10000 := by
  have : ∀ L : List Rg, (∀ r ∈ L, 0 ≤ r.1 ∧ r.1 ≤ 100 ∧ 0 ≤ r.2 ∧ r.2 ≤ 100) → -100 * L.length ≤ lenS L ∧ lenS L ≤ 100 * L.length := by
    intro L
    induction L with
    | nil => intro _; simp [lenS]
    | cons a t ih =>
      intro h
      have h1 := ih fun r hr => h r (List.mem_cons_of_mem _ hr)
      have h2 := h a (List.mem_cons_self ..)
      simp only [lenS, List.length_cons]
      omega
  have h1 := this (L.take k) fun r hr => h.2 r (List.mem_of_mem_take hr)
  have h2 : (L.take k).length ≤ 100 := by rw [List.length_take]; have := h.1; omega
  omega

theorem length_any (g : Nat) (L : List Rg) (w : World) (h : SetR w g L) (hs : Sm L) : Calls Try.prog 43 #[.pointer (some ⟨g, 0, none⟩)] w (BelPost (.int .i64 (lenS L)) w) := by
  obtain ⟨A, c, h1, h2⟩ := h
  have c0 : w.cell? ⟨g, 0, none⟩ = some (.slice A L.length c) := h1.cell 0
  have hl := hs.1
  have H2 := Lib.hid h2
  have HS := Lib.hid hs
  clear h1 hs h2
  go_enter Try.func43, Try.ntmps43
  go_wp2_with fail
  go_loopw [3, 11] (fun s i wr => ∃ k : Nat, k ≤ L.length ∧ i = .int .i64 k ∧ s = .int .i64 (lenS (L.take k)) ∧ Below w.heap.size w wr) (fun _ i _ => L.length - (intOf i).toNat)
  case atStart => exact ⟨0, Nat.zero_le _, rfl, rfl, Below.refl _ _⟩
  case round =>
    obtain ⟨k, hk, rfl, rfl, hb⟩ := hrel
    by_cases hlt : k < L.length
    · have hkr := List.getElem?_eq_getElem hlt
      generalize L[k] = r at *
      obtain ⟨b, off, rfl, _, ca, cb⟩ := (H2.out.ext hb).rg hkr
      have hr := HS.out.2 r (List.mem_of_getElem? hkr)
      have hbd := lenS_bound HS.out k
      have HN := Lib.hid (show lenS (L.take (k + 1)) = lenS (L.take k) + (r.2 - r.1) by rw [take_snoc' _ _ _ hkr, lenS_snoc])
      clear hkr
      generalize lenS (L.take k) = acc at *
      go_wp2_with fail
      refine (inLength_any r.1 r.2 _ hr).mono ?_
      rintro e w' ⟨rfl, hb2⟩
      have HB := Lib.hid (below_trans (below_alloc' hb _) hb2)
      clear hb hb2 ca cb
      go_wp2_with fail
      go_roundw
      case rel => exact ⟨k + 1, by omega, by go_num, by rw [HN.out], HB.out⟩
      case measure => simp [intOf]; omega
    · have hkn : k = L.length := by omega
      have HT := Lib.hid (show lenS L = lenS (L.take k) by rw [hkn, List.take_length])
      clear hkn
      go_wp2_with fail
      go_ret
      exact ⟨by rw [HT.out]; rfl, hb⟩
end Go.Proofs.Ytckdcceglmlinaa
