/- Laws on appends onto an empty slice of no room, and on what stays while the heap grows. No condition. -/
import Derived.Test.YtcbabfndfikejaaLib2
import Derived.ArgAppend
import Derived.Deep.Upon
namespace Go.Proofs.Ytcbabfndfikejaa
open Go.RowKit

theorem ownsRow_ext {w w' : World} {base : Nat} {e : TypeId} {size : Nat} {v : Value} {n : Nat} {xs : List Value} (h : w.ownsRow base e size v n xs) (hb : Below w.heap.size w w') : w'.ownsRow base e size v n xs := by
  refine ⟨h.1, ?_⟩
  rcases h.2 with h0 | ⟨g, cap, cur, hv, hg, hh, r⟩
  · exact .inl h0
  · exact .inr ⟨g, cap, cur, hv, hg, (hb.block g (Array.getElem?_eq_some_iff.1 hh).1).trans hh, r⟩
theorem below_trans {a b c : World} (h : Below a.heap.size a b) (k : Below b.heap.size b c) : Below a.heap.size a c := h.trans (k.mono h.size)
theorem below_trans' {B : Nat} {a b c : World} (h : Below B a b) (hB : B ≤ b.heap.size) (k : Below b.heap.size b c) : Below B a c := h.trans (k.mono hB)
theorem Reads.ext {w w' : World} {size n : Nat} {A : Option Addr} {xs : List Value} (h : Reads w w.heap.size size A n xs) (hb : Below w.heap.size w w') : Reads w' w'.heap.size size A n xs := (h.below hb).more hb.size

section
variable {P : Program} {w : World}
/-- append onto an empty slice of no room: nothing that was there turns. -/
theorem run_append_copy (base : Nat) (t ty e : TypeId) (i : TypeInfo) (z : Value) (size bytes : Nat) (ht : P.underlying t = some (.slice e)) (hi : P.info? e = some i) (hz : i.zero = some z)
    (hsize : i.size = size) (hby : i.bytes = bytes) (hzs : z.cells.size = size) (hsz : 0 < size)
    (g : Nat) (hg : w.heap[g]? = some (.cells #[] e (0, 0))) (hbg : base ≤ g)
    (B : Nat) (A : Option Addr) (m c : Nat) (news : List Value) (hr : Reads w B size A m news) (h63 : m ≤ 4294967296) (hbytes : bytes ≤ 64) :
    ∃ v' w', (Builtin.append_ #[t, t] ty #[.slice (some ⟨g, 0, none⟩) 0 0, .slice A m c]).run P w = .ok v' w' ∧ w'.ownsRow base e size v' m news ∧ Below w.heap.size w w' := by
  have hlt : g < w.heap.size := (Array.getElem?_eq_some_iff.1 hg).1
  rcases Nat.eq_zero_or_pos m with h0 | h0
  · subst h0
    have hn : news = [] := List.eq_nil_of_length_eq_zero (by simpa using hr.1)
    subst hn
    refine ⟨.slice (some ⟨g, 0, none⟩) 0 0, w, ?_, ⟨by simp, .inr ⟨g, 0, #[], rfl, hbg, hg, Nat.le_refl _, by simp [maxLen], by simp, by simp⟩⟩, Below.refl _ _⟩
    cases A with
    | none => simp [Builtin.append_, run_underlying ht, sizeOf, typeInfo, hi, Builtin.lenOf, Builtin.firstCells, storeCells]
    | some a =>
      have hf := run_firstCells_some (P := P) w i.size 0 a 0 c [] (by simp) (by simp)
      simp [Builtin.append_, run_underlying ht, sizeOf, typeInfo, hi, Builtin.lenOf, hf, storeCells]
  · obtain ⟨ad, rfl, hb, hc⟩ := hr.2 h0
    obtain ⟨v', w', hrun, hown, hgrow⟩ := run_append_arg_grows (P := P) w t ty e i z size bytes ht hi hz hsize hby hzs hsz ⟨g, 0, none⟩ 0 0 [] (by simp) (by simp) ad m c news hr.1 hc (by omega) (by simp only [maxLen]; omega)
      (Nat.le_trans (Nat.mul_le_mul (show 0 + m ≤ 4294967296 by omega) hbytes) (by omega))
    rw [Nat.zero_add, List.nil_append] at hown
    refine ⟨v', w', hrun, ⟨hown.1, ?_⟩, ⟨hgrow.os, hgrow.tape, hgrow.output, hgrow.size, fun k hk => hgrow.block k hk (by simp)⟩⟩
    rcases hown.2 with h1 | ⟨g', cap, cur, hv, hg', r⟩
    · exact .inl h1
    · exact .inr ⟨g', cap, cur, hv, by omega, r⟩

theorem wp_append_copy {o : Oper} {a : Act} {K : Act → World → Prop} {Q : Exit → Act → World → Prop} (s x : Operand) (t : TypeId)
    (ho : o.op = .call { callee := .builtin .append, args := #[s, x], argTypes := #[t, t] })
    (base : Nat) (e : TypeId) (i : TypeInfo) (z : Value) (size bytes : Nat) (ht : P.underlying t = some (.slice e)) (hi : P.info? e = some i) (hz : i.zero = some z)
    (hsize : i.size = size) (hby : i.bytes = bytes) (hzs : z.cells.size = size) (hsz : 0 < size)
    (g : Nat) (hs : a.eval s = .slice (some ⟨g, 0, none⟩) 0 0) (hg : w.heap[g]? = some (.cells #[] e (0, 0))) (hbg : base ≤ g)
    (B : Nat) (A : Option Addr) (m c : Nat) (news : List Value) (hx : a.eval x = .slice A m c) (hr : Reads w B size A m news) (h63 : m ≤ 4294967296) (hbytes : bytes ≤ 64)
    (h : ∀ v' w', w'.ownsRow base e size v' m news → Below w.heap.size w w' → K (a.put o.dst v') w') : o.wp P a w K Q := by
  obtain ⟨v', w', hrun, h2, h3⟩ := run_append_copy (P := P) base t o.type e i z size bytes ht hi hz hsize hby hzs hsz g hg hbg B A m c news hr h63 hbytes
  unfold Oper.wp execOp
  simp only [ho, resolve, invoke, builtin, Sem.run_bind, Sem.run_pure, Result.andThen_ok, List.map_toArray, List.map_cons, List.map_nil, hs, hx, hrun]
  exact h v' w' h2 h3

theorem wpList_append_copy {ops : Array Oper} {rest : List Oper} {o : Oper} {a : Act} {Q : Exit → Act → World → Prop} (hgd : o.guard = none) (s x : Operand) (t : TypeId)
    (ho : o.op = .call { callee := .builtin .append, args := #[s, x], argTypes := #[t, t] })
    (base : Nat) (e : TypeId) (i : TypeInfo) (z : Value) (size bytes : Nat) (ht : P.underlying t = some (.slice e)) (hi : P.info? e = some i) (hz : i.zero = some z)
    (hsize : i.size = size) (hby : i.bytes = bytes) (hzs : z.cells.size = size) (hsz : 0 < size)
    (g : Nat) (hs : a.eval s = .slice (some ⟨g, 0, none⟩) 0 0) (hg : w.heap[g]? = some (.cells #[] e (0, 0))) (hbg : base ≤ g)
    (B : Nat) (A : Option Addr) (m c : Nat) (news : List Value) (hx : a.eval x = .slice A m c) (hr : Reads w B size A m news) (h63 : m ≤ 4294967296) (hbytes : bytes ≤ 64)
    (h : ∀ v' w', w'.ownsRow base e size v' m news → Below w.heap.size w w' → wpList P ops Q rest (a.put o.dst v') w') : wpList P ops Q (o :: rest) a w :=
  wpList_plain hgd fun _ hK => wp_append_copy s x t ho base e i z size bytes ht hi hz hsize hby hzs hsz g hs hg hbg B A m c news hx hr h63 hbytes fun v' w' h2 h3 => hK _ _ (h v' w' h2 h3)

theorem step_append_copy {ops : Array Oper} {o : Oper} {a : Act} {K : Act → World → Prop} {Q : Exit → Act → World → Prop} {E : Prop} (hgd : o.guard = none) (s x : Operand) (t : TypeId)
    (ho : o.op = .call { callee := .builtin .append, args := #[s, x], argTypes := #[t, t] })
    (base : Nat) (e : TypeId) (i : TypeInfo) (z : Value) (size bytes : Nat) (ht : P.underlying t = some (.slice e)) (hi : P.info? e = some i) (hz : i.zero = some z)
    (hsize : i.size = size) (hby : i.bytes = bytes) (hzs : z.cells.size = size) (hsz : 0 < size)
    (g : Nat) (hs : a.eval s = .slice (some ⟨g, 0, none⟩) 0 0) (hg : w.heap[g]? = some (.cells #[] e (0, 0))) (hbg : base ≤ g)
    (B : Nat) (A : Option Addr) (m c : Nat) (news : List Value) (hx : a.eval x = .slice A m c) (hr : Reads w B size A m news) (h63 : m ≤ 4294967296) (hbytes : bytes ≤ 64)
    (h : ∀ v' w', w'.ownsRow base e size v' m news → Below w.heap.size w w' → K (a.put o.dst v') w') :
    if Region.wanted o (yielded ops a.tmps) = true then Oper.wp P o a w K Q else E := by
  have hw : Region.wanted o (yielded ops a.tmps) = true := by simp [Region.wanted, hgd]
  rw [if_pos hw]
  exact wp_append_copy s x t ho base e i z size bytes ht hi hz hsize hby hzs hsz g hs hg hbg B A m c news hx hr h63 hbytes h

theorem wp_append_bel {o : Oper} {a : Act} {K : Act → World → Prop} {Q : Exit → Act → World → Prop} (s x : Operand) (t : TypeId)
    (ho : o.op = .call { callee := .builtin .append, args := #[s, x], argTypes := #[t, t] })
    (W : World) (base : Nat) (e : TypeId) (i : TypeInfo) (z : Value) (size bytes : Nat) (ht : P.underlying t = some (.slice e)) (hi : P.info? e = some i) (hz : i.zero = some z)
    (hsize : i.size = size) (hby : i.bytes = bytes) (hzs : z.cells.size = size) (hsz : 0 < size)
    (v : Value) (n : Nat) (xs : List Value) (hs : a.eval s = v) (hown : w.ownsRow base e size v n xs)
    (B : Nat) (A : Option Addr) (m c : Nat) (news : List Value) (hx : a.eval x = .slice A m c) (hr : Reads w B size A m news) (h1 : ∀ u ∈ news, u.oneCell' = true)
    (h63 : n + m ≤ 4294967296) (hbytes : bytes ≤ 64) (hbel : Below base W w) (hbase : base ≤ w.heap.size)
    (h : ∀ v' w', w'.ownsRow base e size v' (n + m) (xs ++ news) → Below base W w' → w.grownBy w' v.ownBlock → (v'.ownBlock = v.ownBlock ∨ v'.ownBlock = some w.heap.size) → K (a.put o.dst v') w') : o.wp P a w K Q :=
  wp_append_any w s x t ho base e i z size bytes ht hi hz hsize hby hzs hsz v n xs hs hown B A m c news hx hr h1 (by simp only [maxLen]; omega)
    (Nat.le_trans (Nat.mul_le_mul h63 hbytes) (by omega)) hbase fun v' w' h2 h3 h4 => h v' w' h2 (hbel.grown h3 hbase fun g hg => (hown.lt g hg).1) h3 h4

theorem step_append_bel {W : World} {ops : Array Oper} {o : Oper} {a : Act} {K : Act → World → Prop} {Q : Exit → Act → World → Prop} {E : Prop} (hgd : o.guard = none) (s x : Operand) (t : TypeId)
    (ho : o.op = .call { callee := .builtin .append, args := #[s, x], argTypes := #[t, t] })
    (base : Nat) (e : TypeId) (i : TypeInfo) (z : Value) (size bytes : Nat) (ht : P.underlying t = some (.slice e)) (hi : P.info? e = some i) (hz : i.zero = some z)
    (hsize : i.size = size) (hby : i.bytes = bytes) (hzs : z.cells.size = size) (hsz : 0 < size)
    (v : Value) (n : Nat) (xs : List Value) (hs : a.eval s = v) (hown : w.ownsRow base e size v n xs)
    (B : Nat) (A : Option Addr) (m c : Nat) (news : List Value) (hx : a.eval x = .slice A m c) (hr : Reads w B size A m news) (h1 : ∀ u ∈ news, u.oneCell' = true)
    (h63 : n + m ≤ 4294967296) (hbytes : bytes ≤ 64) (hbel : Below base W w) (hbase : base ≤ w.heap.size)
    (h : ∀ v' w', w'.ownsRow base e size v' (n + m) (xs ++ news) → Below base W w' → w.grownBy w' v.ownBlock → (v'.ownBlock = v.ownBlock ∨ v'.ownBlock = some w.heap.size) → K (a.put o.dst v') w') :
    if Region.wanted o (yielded ops a.tmps) = true then Oper.wp P o a w K Q else E :=
  step_append_any w hgd s x t ho base e i z size bytes ht hi hz hsize hby hzs hsz v n xs hs hown B A m c news hx hr h1 (by simp only [maxLen]; omega)
    (Nat.le_trans (Nat.mul_le_mul h63 hbytes) (by omega)) hbase fun v' w' h2 h3 h4 => h v' w' h2 (hbel.grown h3 hbase fun g hg => (hown.lt g hg).1) h3 h4
end
end Go.Proofs.Ytcbabfndfikejaa
