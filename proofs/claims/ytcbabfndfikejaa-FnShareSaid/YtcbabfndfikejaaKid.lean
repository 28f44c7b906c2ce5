/- The walks that read what is below a choice; what stays while a call writes to known blocks; choices closed under what is below. Condition: the choices lie in memory. -/
import Derived.Test.YtcbabfndfikejaaMapP
import Derived.Test.YtcbabfndfikejaaTwo
namespace Go.Proofs.Ytcbabfndfikejaa
open Go.RowKit
set_option linter.unusedSimpArgs false

def PtrPost (q : Addr) (w : World) (e : Ending) (w' : World) : Prop := e = .returned (.pointer (some q)) ∧ w = w'
theorem Rep.kids {w : World} {X : Nat → Prop} {p : Addr} {k : Nat} {f : Tops} (h : Rep w X p k f) : ∃ g qs, p = ⟨g, 0, none⟩ ∧ Shape w X g k (hsh k f) f.sts qs ∧ Subs w X f qs := by
  obtain ⟨g, h1, qs, h2, h3⟩ := h
  exact ⟨g, qs, h1, h2, h3⟩
theorem getParent_any (X : Nat → Prop) (g k j : Nat) (h : Int) (ss : List Int) (qs : List Addr) (q : Addr) (w : World) (hS : Shape w X g k h ss qs) (hj : qs[j]? = some q) :
    Calls Try.prog 79 #[.pointer (some ⟨g, 0, none⟩), .int .i64 (j : Int)] w (PtrPost q w) := by
  obtain ⟨_, hlen, H⟩ := hS
  rcases H with ⟨rfl, rfl, hg⟩ | ⟨rfl, s, q', rfl, rfl, hg⟩ | ⟨rfl, A, c, A', c', hg, hr, _⟩
  · simp at hlen; subst hlen; simp at hj
  · have hj0 : j = 0 := by
      rcases Nat.eq_zero_or_pos j with h | h
      · exact h
      · rw [List.getElem?_eq_none (by simp; omega)] at hj; cases hj
    subst hj0
    simp at hj
    subst hj
    have c1 : w.cell? ⟨g, 1, none⟩ = some (.int .i64 1) := cell_of hg 1
    have c2 : w.cell? ⟨g, 2, none⟩ = some (.pointer (some q')) := cell_of hg 2
    clear hg
    go_enter Try.func79, Try.ntmps79
    go_wp2
    go_ret
    exact ⟨rfl, rfl⟩
  · have hlt : j < ss.length := by rw [← hlen]; exact (List.getElem?_eq_some_iff.1 hj).1
    obtain ⟨b, off, u, rfl, _, hu, hc⟩ := hr.reads.at1 hlt
    obtain ⟨q', hq', rfl⟩ := ptrs_at hu
    rw [hj] at hq'
    cases hq'
    have c1 : w.cell? ⟨g, 1, none⟩ = some (.int .i64 2) := cell_of hg 1
    have c4 : w.cell? ⟨g, 4, none⟩ = some (.slice (some ⟨b, off, none⟩) ss.length c) := cell_of hg 4
    clear hg hr hu hlen hj
    go_enter Try.func79, Try.ntmps79
    go_wp2
    go_ret
    exact ⟨rfl, rfl⟩
theorem length_any (X : Nat → Prop) (g k : Nat) (h : Int) (ss : List Int) (qs : List Addr) (w : World) (hS : Shape w X g k h ss qs) (hk : k ≠ 0) :
    Calls Try.prog 68 #[.pointer (some ⟨g, 0, none⟩)] w (IntPost (ss.length : Nat) w) := by
  obtain ⟨_, hlen, H⟩ := hS
  rcases H with ⟨rfl, rfl, hg⟩ | ⟨rfl, s, q', rfl, rfl, hg⟩ | ⟨rfl, A, c, A', c', hg, hr, _⟩
  · exact absurd rfl hk
  · have c1 : w.cell? ⟨g, 1, none⟩ = some (.int .i64 1) := cell_of hg 1
    clear hg
    go_enter Try.func68, Try.ntmps68
    go_wp2
    go_ret
    exact ⟨rfl, rfl⟩
  · have c1 : w.cell? ⟨g, 1, none⟩ = some (.int .i64 2) := cell_of hg 1
    have c5 : w.cell? ⟨g, 5, none⟩ = some (.slice A' ss.length c') := cell_of hg 5
    clear hg hr hlen
    go_enter Try.func68, Try.ntmps68
    go_wp2
    go_ret
    exact ⟨rfl, rfl⟩
theorem getRS_any (X : Nat → Prop) (g k j : Nat) (h s : Int) (ss : List Int) (qs : List Addr) (w : World) (hS : Shape w X g k h ss qs) (hj : ss[j]? = some s) :
    Calls Try.prog 67 #[.pointer (some ⟨g, 0, none⟩), .int .i64 (j : Int)] w (IntPost s w) := by
  obtain ⟨_, hlen, H⟩ := hS
  rcases H with ⟨rfl, rfl, hg⟩ | ⟨rfl, s', q', rfl, rfl, hg⟩ | ⟨rfl, A, c, A', c', hg, _, hr⟩
  · simp at hj
  · have hj0 : j = 0 := by
      rcases Nat.eq_zero_or_pos j with h | h
      · exact h
      · rw [List.getElem?_eq_none (by simp; omega)] at hj; cases hj
    subst hj0
    simp at hj
    subst hj
    have c1 : w.cell? ⟨g, 1, none⟩ = some (.int .i64 1) := cell_of hg 1
    have c3 : w.cell? ⟨g, 3, none⟩ = some (.int .i64 s') := cell_of hg 3
    clear hg
    go_enter Try.func67, Try.ntmps67
    go_wp2
    go_ret
    exact ⟨rfl, rfl⟩
  · have hlt : j < ss.length := (List.getElem?_eq_some_iff.1 hj).1
    obtain ⟨b, off, u, rfl, _, hu, hc⟩ := hr.reads.at1 hlt
    obtain ⟨s', hs', rfl⟩ := ints_at hu
    rw [hj] at hs'
    cases hs'
    have c1 : w.cell? ⟨g, 1, none⟩ = some (.int .i64 2) := cell_of hg 1
    have c5 : w.cell? ⟨g, 5, none⟩ = some (.slice (some ⟨b, off, none⟩) ss.length c') := cell_of hg 5
    clear hg hr hu hlen hj
    go_enter Try.func67, Try.ntmps67
    go_wp2
    go_ret
    exact ⟨rfl, rfl⟩

/-! ### what stays while known blocks are written -/
/-- Blocks of w that X does not name are as they were. -/
structure Chg (X : Nat → Prop) (w w' : World) : Prop where
  os : w'.os = w.os
  tape : w'.tape = w.tape
  output : w'.output = w.output
  size : w.heap.size ≤ w'.heap.size
  block : ∀ j, j < w.heap.size → ¬ X j → w'.heap[j]? = w.heap[j]?
theorem Chg.refl (X : Nat → Prop) (w : World) : Chg X w w := ⟨rfl, rfl, rfl, Nat.le_refl _, fun _ _ _ => rfl⟩
theorem Chg.trans {X Y : Nat → Prop} {a b c : World} (h : Chg X a b) (k : Chg Y b c) (hY : ∀ j, j < a.heap.size → Y j → X j) : Chg X a c :=
  ⟨k.os.trans h.os, k.tape.trans h.tape, k.output.trans h.output, Nat.le_trans h.size k.size, fun j hj hx => (k.block j (Nat.lt_of_lt_of_le hj h.size) (fun hy => hx (hY j hj hy))).trans (h.block j hj hx)⟩
theorem Chg.of_below {X : Nat → Prop} {w w' : World} (h : Below w.heap.size w w') : Chg X w w' := ⟨h.os, h.tape, h.output, h.size, fun j hj _ => h.block j hj⟩
theorem Chg.of_grown {w w' : World} {row : Option Nat} (h : w.grownBy w' row) : Chg (fun j => some j = row) w w' := ⟨h.os, h.tape, h.output, h.size, fun j hj hx => h.block j hj hx⟩
theorem Chg.below {X : Nat → Prop} {w w' : World} {B : Nat} (h : Chg X w w') (hX : ∀ j, X j → B ≤ j) (hB : B ≤ w.heap.size) : Below B w w' :=
  ⟨h.os, h.tape, h.output, h.size, fun j hj => h.block j (Nat.lt_of_lt_of_le hj hB) (fun hx => absurd (hX j hx) (by omega))⟩
theorem Chg.stay {X : Nat → Prop} {w w' : World} (h : Chg X w w') (hX : ∀ g cs e, w.heap[g]? = some (.cells cs e (0, 0)) → ctxTy e → ¬ X g) : Stay w w' :=
  ⟨h.size, fun g cs e he hg => (h.block g (Array.getElem?_eq_some_iff.1 hg).1 (hX g cs e hg he)).trans hg⟩
theorem Chg.heap {X : Nat → Prop} {w w' : World} (h : Chg X w w') {g : Nat} {o : Obj} (hg : w.heap[g]? = some o) (hx : ¬ X g) : w'.heap[g]? = some o := (h.block g (Array.getElem?_eq_some_iff.1 hg).1 hx).trans hg
theorem Chg.drew {X : Nat → Prop} {w w' : World} (h : Chg X w w') : Chg X w w'.drew := ⟨h.os, h.tape, h.output, h.size, h.block⟩

/-! ### closed lists of choices -/
/-- What is below each choice of S is in S. -/
def Cl (w : World) (S : List Addr) : Prop := ∀ q ∈ S, ∃ g k h ss qs, q = ⟨g, 0, none⟩ ∧ Shape w NoX g k h ss qs ∧ ∀ q' ∈ qs, q' ∈ S
theorem Cl.stay {w w' : World} {S : List Addr} (h : Cl w S) (hs : Stay w w') : Cl w' S := fun q hq => by
  obtain ⟨g, k, h', ss, qs, h1, h2, h3⟩ := h q hq
  exact ⟨g, k, h', ss, qs, h1, h2.move (hs.move NoX), h3⟩
theorem Cl.kid {w : World} {S : List Addr} {X : Nat → Prop} (h : Cl w S) {g k : Nat} {h' : Int} {ss : List Int} {qs : List Addr} (hS : Shape w X g k h' ss qs) (hm : (⟨g, 0, none⟩ : Addr) ∈ S) {q : Addr} (hq : q ∈ qs) : q ∈ S := by
  obtain ⟨g', k', h'', ss', qs', h1, h2, h3⟩ := h _ hm
  cases h1
  obtain ⟨_, _, rfl⟩ := hS.unique h2
  exact h3 q hq
end Go.Proofs.Ytcbabfndfikejaa
