/- The walk of Equals on choices: it is equality of trees. Condition: the choices lie in memory and are well made. -/
import Derived.Test.YtcbabfndfikejaaEqS
namespace Go.Proofs.Ytcbabfndfikejaa
open Go.RowKit
set_option linter.unusedSimpArgs false

/-! a choice's address tells the choice -/
theorem Row.unique {w : World} {X X' : Nat → Prop} {e : TypeId} {A : Option Addr} {n : Nat} {xs ys : List Value} (h : Row w X e A n xs) (h' : Row w X' e A n ys) : xs = ys := by
  rcases Nat.eq_zero_or_pos n with h0 | h0
  · rw [List.eq_nil_of_length_eq_zero (h.1.trans h0), List.eq_nil_of_length_eq_zero (h'.1.trans h0)]
  · obtain ⟨g, off, cs, rfl, _, hg, hc⟩ := h.2 h0
    obtain ⟨g', off', cs', he, _, hg', hc'⟩ := h'.2 h0
    cases he
    rw [hg] at hg'; cases hg'
    apply List.ext_getElem?
    intro j
    rcases Nat.lt_or_ge j n with hj | hj
    · have e1 := List.getElem?_eq_getElem (l := xs) (i := j) (by have := h.1; omega)
      have e2 := List.getElem?_eq_getElem (l := ys) (i := j) (by have := h'.1; omega)
      rw [e1, e2]
      have a1 := hc j _ e1
      have a2 := hc' j _ e2
      rw [a1] at a2
      exact a2
    · rw [List.getElem?_eq_none (by have := h.1; omega), List.getElem?_eq_none (by have := h'.1; omega)]
theorem ints_inj {a b : List Int} (h : ints a = ints b) : a = b := by
  induction a generalizing b with
  | nil => cases b with
    | nil => rfl
    | cons => simp [ints] at h
  | cons x t ih => cases b with
    | nil => simp [ints] at h
    | cons y s =>
      simp only [ints, List.map_cons, List.cons.injEq, Value.int.injEq, true_and] at h
      rw [h.1, ih h.2]
theorem ptrs_inj {a b : List Addr} (h : ptrs a = ptrs b) : a = b := by
  induction a generalizing b with
  | nil => cases b with
    | nil => rfl
    | cons => simp [ptrs] at h
  | cons x t ih => cases b with
    | nil => simp [ptrs] at h
    | cons y s =>
      simp only [ptrs, List.map_cons, List.cons.injEq, Value.pointer.injEq, Option.some.injEq] at h
      rw [h.1, ih h.2]
theorem Shape.unique {w : World} {X X' : Nat → Prop} {g k k' : Nat} {h h' : Int} {ss ss' : List Int} {qs qs' : List Addr} (H : Shape w X g k h ss qs) (H' : Shape w X' g k' h' ss' qs') : k = k' ∧ ss = ss' ∧ qs = qs' := by
  obtain ⟨_, hl, H⟩ := H
  obtain ⟨_, hl', H'⟩ := H'
  rcases H with ⟨rfl, rfl, e⟩ | ⟨rfl, s, q, rfl, rfl, e⟩ | ⟨rfl, A, c, A', c', e, r1, r2⟩ <;>
  rcases H' with ⟨rfl, rfl, e'⟩ | ⟨rfl, s', q', rfl, rfl, e'⟩ | ⟨rfl, B, d, B', d', e', t1, t2⟩ <;>
  rw [e] at e' <;> simp only [Option.some.injEq, Obj.cells.injEq, Array.mk.injEq, List.cons.injEq, Value.int.injEq, Value.pointer.injEq, Value.slice.injEq, true_and, and_true, reduceCtorEq, false_and, and_false] at e'
  all_goals first
    | (exfalso; have := e'.2.1; omega)
    | exact ⟨rfl, rfl, by rw [List.eq_nil_of_length_eq_zero hl, List.eq_nil_of_length_eq_zero hl']⟩
    | (obtain ⟨_, e1, e2⟩ := e'
       subst e1 e2
       exact ⟨rfl, rfl, rfl⟩)
    | (obtain ⟨_, ⟨rfl, hn, rfl⟩, ⟨rfl, _, rfl⟩⟩ := e'
       rw [← hn] at t1 t2
       exact ⟨rfl, ints_inj (r2.unique t2), ptrs_inj (r1.unique t1)⟩)
theorem Subs.unique {w : World} {X X' : Nat → Prop} : ∀ (f f' : Tops) (qs : List Addr), f.sts = f'.sts → Subs w X f qs → Subs w X' f' qs → f = f'
  | .nil, .nil, _, _, _, _ => rfl
  | .nil, .cons .., _, h, _, _ => by simp [Tops.sts] at h
  | .cons .., .nil, _, h, _, _ => by simp [Tops.sts] at h
  | .cons s k sub r, .cons s' k' sub' r', qs, h, ⟨g, qr, e1, ⟨qs1, h1, h2⟩, h3⟩, ⟨g', qr', e1', ⟨qs1', h1', h2'⟩, h3'⟩ => by
    simp only [Tops.sts, List.cons.injEq] at h
    rw [e1] at e1'
    simp only [List.cons.injEq, Addr.mk.injEq, and_true] at e1'
    obtain ⟨rfl, rfl⟩ := e1'
    obtain ⟨rfl, e2, rfl⟩ := h1.unique h1'
    rw [h.1, Subs.unique sub sub' qs1 e2 h2 h2', Subs.unique r r' qr h.2 h3 h3']
theorem Rep.unique {w : World} {X X' : Nat → Prop} {p : Addr} {k k' : Nat} {f f' : Tops} (h : Rep w X p k f) (h' : Rep w X' p k' f') : k = k' ∧ f = f' := by
  obtain ⟨g, rfl, qs, h1, h2⟩ := h
  obtain ⟨g', e, qs', h1', h2'⟩ := h'
  cases e
  obtain ⟨rfl, e2, rfl⟩ := h1.unique h1'
  exact ⟨rfl, Subs.unique f f' qs e2 h2 h2'⟩

/-! plain facts on trees -/
def Tops.size : Tops → Nat
  | .nil => 0
  | .cons _ _ sub r => sub.size + r.size + 1
theorem Tops.at_size : ∀ {f : Tops} {i : Nat} {s : Int} {k : Nat} {sub : Tops}, f.at? i = some (s, k, sub) → sub.size < f.size
  | .nil, _, _, _, _, h => by simp [Tops.at?] at h
  | .cons _ _ _ _, 0, _, _, _, h => by simp [Tops.at?] at h; obtain ⟨_, _, rfl⟩ := h; simp only [Tops.size]; omega
  | .cons _ _ _ r, i + 1, s, k, sub, h => by have := Tops.at_size (f := r) (i := i) h; simp only [Tops.size]; omega
theorem Tops.at_wf : ∀ {f : Tops} {i : Nat} {s : Int} {k : Nat} {sub : Tops}, f.wf → f.at? i = some (s, k, sub) → Wf k sub
  | .nil, _, _, _, _, _, h => by simp [Tops.at?] at h
  | .cons _ _ _ _, 0, _, _, _, hw, h => by simp [Tops.at?] at h; obtain ⟨_, rfl, rfl⟩ := h; exact ⟨hw.2.1, hw.2.2.1⟩
  | .cons _ _ _ r, i + 1, s, k, sub, hw, h => Tops.at_wf (f := r) (i := i) hw.2.2.2 h
theorem Tops.ext_at : ∀ {f f' : Tops}, f.len = f'.len → (∀ j, j < f.len → f.at? j = f'.at? j) → f = f'
  | .nil, .nil, _, _ => rfl
  | .nil, .cons .., h, _ => by simp [Tops.len] at h
  | .cons .., .nil, h, _ => by simp [Tops.len] at h
  | .cons s k sub r, .cons s' k' sub' r', h, ha => by
    have h0 := ha 0 (by simp [Tops.len])
    simp only [Tops.at?, Option.some.injEq, Prod.mk.injEq] at h0
    obtain ⟨rfl, rfl, rfl⟩ := h0
    rw [Tops.ext_at (f := r) (f' := r') (by simpa [Tops.len] using h) (fun j hj => ha (j + 1) (by simp only [Tops.len]; omega))]

theorem comp72 : (Try.prog.info? 72).map (·.comparable) = some true := by kernel_rfl
theorem size97 : (Try.prog.info? 97).map (·.size) = some 6 := by kernel_rfl
theorem eqI_same (w : World) (a : Addr) : (binOp .eql 99 (.iface 72 (.pointer (some a))) (.iface 72 (.pointer (some a)))).run Try.prog w = .ok (.bool true) w := by
  have h1 := comp72
  have h2 := size97
  cases e1 : Try.prog.info? 72 with
  | none => rw [e1] at h1; cases h1
  | some i =>
    cases e2 : Try.prog.info? 97 with
    | none => rw [e2] at h2; cases h2
    | some j => exact run_eql_iface_ptr_same w a Try.underlying99 Try.underlying72 e1 (by rw [e1] at h1; simpa using h1) e2
theorem eqI_other (w : World) {a b : Addr} {ca cb : Array Value} (hne : a ≠ b) (ha : w.heap[a.block]? = some (.cells ca 97 (0, 0))) (hb : w.heap[b.block]? = some (.cells cb 97 (0, 0))) :
    (binOp .eql 99 (.iface 72 (.pointer (some a))) (.iface 72 (.pointer (some b)))).run Try.prog w = .ok (.bool false) w := by
  have h1 := comp72
  have h2 := size97
  cases e1 : Try.prog.info? 72 with
  | none => rw [e1] at h1; cases h1
  | some i =>
    cases e2 : Try.prog.info? 97 with
    | none => rw [e2] at h2; cases h2
    | some j => exact run_eql_iface_ptr_other w Try.underlying99 Try.underlying72 e1 (by rw [e1] at h1; simpa using h1) e2 (by rw [e2] at h2; simp at h2; omega) hne ha hb
end Go.Proofs.Ytcbabfndfikejaa
