/- Small lemmas used by all walks of this seat: addresses, reads, appends, what stays. No condition. -/
import Derived.Test.YtckdcceglmlinaaDoorRows
import Derived.WalkKit
import Derived.WalkSpells
import Derived.WalkLawsBesides
import Derived.Test.YtckdcceglmlinaaDoorLib
import Derived.ArgAppend
import Derived.Deep.Upon
import Derived.BigQuiet
import Derived.Deep.QuietTactic
import Derived.Deep.Light
import Derived.Deep.DeepFit
import Derived.Deep.DrawnRows
namespace Go.Proofs.YtckdcceglmlinaaDoor
open Go.RowKit

theorem addr_of_cell {w : World} {ad : Addr} {j : Nat} {u : Value} (h : w.cell? (ad.add j) = some u) : ad.add j = ⟨ad.block, ad.off + j, none⟩ := by
  unfold World.cell? at h
  rw [block_of_add] at h
  split at h
  · split at h
    · cases h
    · rename_i hs
      unfold Addr.add at hs ⊢
      by_cases h0 : j = 0
      · subst h0
        cases ad; simp_all
      · simp_all
  · cases h

section
variable {w w' : World} {B B' size n : Nat} {A : Option Addr} {xs : List Value}
theorem Reads.lit (h : Reads w B size A n xs) (hn : 0 < n) (hs : 0 < size) : ∃ b off, A = some ⟨b, off, none⟩ ∧ b < B ∧ ∀ j u, xs[j]? = some u → w.cell? ⟨b, off + j, none⟩ = some u := by
  obtain ⟨ad, rfl, hb, hc⟩ := h.2 hn
  have hl : 0 < xs.length := by rw [h.1]; exact Nat.mul_pos hn hs
  have h0 := hc 0 _ (List.getElem?_eq_getElem hl)
  have e0 := addr_of_cell h0
  have e0' : ad = ⟨ad.block, ad.off, none⟩ := by
    have : ad.add 0 = ad := by unfold Addr.add; rw [if_pos rfl]
    rw [this] at e0; simpa using e0
  refine ⟨ad.block, ad.off, by rw [← e0'], hb, fun j u hu => ?_⟩
  have h1 := hc j u hu
  rwa [addr_of_cell h1] at h1
theorem Reads.at1 {k : Nat} (h : Reads w B 1 A n xs) (hk : k < n) : ∃ b off u, A = some ⟨b, off, none⟩ ∧ b < B ∧ xs[k]? = some u ∧ w.cell? ⟨b, off + k, none⟩ = some u := by
  obtain ⟨b, off, e, hb, hc⟩ := h.lit (by omega) (by omega)
  have hl : k < xs.length := by have := h.1; omega
  exact ⟨b, off, xs[k], e, hb, List.getElem?_eq_getElem hl, hc k _ (List.getElem?_eq_getElem hl)⟩
theorem Reads.at2 {k : Nat} (h : Reads w B 2 A n xs) (hk : k < n) : ∃ b off u v, A = some ⟨b, off, none⟩ ∧ b < B ∧ xs[k * 2]? = some u ∧ xs[k * 2 + 1]? = some v ∧
    w.cell? ⟨b, off + k * 2, none⟩ = some u ∧ w.cell? ⟨b, off + k * 2 + 1, none⟩ = some v := by
  obtain ⟨b, off, e, hb, hc⟩ := h.lit (by omega) (by omega)
  have hl : k * 2 + 1 < xs.length := by have := h.1; omega
  exact ⟨b, off, xs[k * 2], xs[k * 2 + 1], e, hb, List.getElem?_eq_getElem (by omega), List.getElem?_eq_getElem hl, hc _ _ (List.getElem?_eq_getElem (by omega)), hc _ _ (List.getElem?_eq_getElem hl)⟩
end

theorem reads_new {w : World} {cs : Array Value} {e : TypeId} {size n g : Nat} (hg : w.heap.size = g) (hs : cs.size = n * size) : Reads (w.alloc (.cells cs e)) (g + 1) size (some ⟨g, 0, none⟩) n cs.toList := by
  subst hg
  exact ⟨by simpa using hs, fun _ => ⟨_, rfl, Nat.lt_succ_self _, fun j u hu => by
    have hadd : (⟨w.heap.size, 0, none⟩ : Addr).add j = ⟨w.heap.size, j, none⟩ := by unfold Addr.add; split <;> simp_all
    rw [hadd, cell_of_row _ _ _ _ _ _ (heap_alloc_new w (.cells cs e))]
    simpa using hu⟩⟩

/-- append onto a row of the call's own; what was there below base stays. -/
theorem wpList_append_bel {P : Program} {w : World} {ops : Array Oper} {rest : List Oper} {o : Oper} {a : Act} {Q : Exit → Act → World → Prop} (hgd : o.guard = none) (s x : Operand) (t : TypeId)
    (ho : o.op = .call { callee := .builtin .append, args := #[s, x], argTypes := #[t, t] })
    (W : World) (base : Nat) (e : TypeId) (i : TypeInfo) (z : Value) (size bytes : Nat) (ht : P.underlying t = some (.slice e)) (hi : P.info? e = some i) (hz : i.zero = some z)
    (hsize : i.size = size) (hby : i.bytes = bytes) (hzs : z.cells.size = size) (hsz : 0 < size)
    (v : Value) (n : Nat) (xs : List Value) (hs : a.eval s = v) (hown : w.ownsRow base e size v n xs)
    (B : Nat) (A : Option Addr) (m c : Nat) (news : List Value) (hx : a.eval x = .slice A m c) (hr : Reads w B size A m news) (h1 : ∀ u ∈ news, u.oneCell' = true)
    (h63 : n + m ≤ 4294967296) (hbytes : bytes ≤ 64) (hbel : Below base W w) (hbase : base ≤ w.heap.size)
    (h : ∀ v' w', w'.ownsRow base e size v' (n + m) (xs ++ news) → Below base W w' → w.grownBy w' v.ownBlock → (v'.ownBlock = v.ownBlock ∨ v'.ownBlock = some w.heap.size) → wpList P ops Q rest (a.put o.dst v') w') : wpList P ops Q (o :: rest) a w :=
  wpList_append_any w hgd s x t ho base e i z size bytes ht hi hz hsize hby hzs hsz v n xs hs hown B A m c news hx hr h1 (by simp only [maxLen]; omega)
    (Nat.le_trans (Nat.mul_le_mul h63 hbytes) (by omega)) hbase fun v' w' h2 h3 h4 => h v' w' h2 (hbel.grown h3 hbase fun g hg => (hown.lt g hg).1) h3 h4
theorem ownsRow_ext {w w' : World} {base : Nat} {e : TypeId} {size : Nat} {v : Value} {n : Nat} {xs : List Value} (h : w.ownsRow base e size v n xs) (hb : Below w.heap.size w w') : w'.ownsRow base e size v n xs := by
  refine ⟨h.1, ?_⟩
  rcases h.2 with h0 | ⟨g, cap, cur, hv, hg, hh, r⟩
  · exact .inl h0
  · exact .inr ⟨g, cap, cur, hv, hg, (hb.block g (Array.getElem?_eq_some_iff.1 hh).1).trans hh, r⟩
theorem below_trans {a b c : World} (h : Below a.heap.size a b) (k : Below b.heap.size b c) : Below a.heap.size a c := h.trans (k.mono h.size)
theorem below_trans' {B : Nat} {a b c : World} (h : Below B a b) (hB : B ≤ b.heap.size) (k : Below b.heap.size b c) : Below B a c := h.trans (k.mono hB)
theorem Reads.ext {w w' : World} {size n : Nat} {A : Option Addr} {xs : List Value} (h : Reads w w.heap.size size A n xs) (hb : Below w.heap.size w w') : Reads w' w'.heap.size size A n xs := (h.below hb).more hb.size

section
variable {P : Program} {w : World}
/-- append onto an empty slice of no room: nothing that was there turns. -/
theorem run_append_copy (base : Nat) (t ty e : TypeId) (i : TypeInfo) (z : Value) (size bytes : Nat) (ht : P.underlying t = some (.slice e)) (hi : P.info? e = some i) (hz : i.zero = some z)
    (hsize : i.size = size) (hby : i.bytes = bytes) (hzs : z.cells.size = size) (hsz : 0 < size)
    (g : Nat) (hg : w.heap[g]? = some (.cells #[] e (0, 0))) (hbg : base ≤ g)
    (B : Nat) (A : Option Addr) (m c : Nat) (news : List Value) (hr : Reads w B size A m news) (h63 : m ≤ 4294967296) (hbytes : bytes ≤ 64) :
    ∃ v' w', (Builtin.append_ #[t, t] ty #[.slice (some ⟨g, 0, none⟩) 0 0, .slice A m c]).run P w = .ok v' w' ∧ w'.ownsRow base e size v' m news ∧ Below w.heap.size w w' := by
  have hlt : g < w.heap.size := (Array.getElem?_eq_some_iff.1 hg).1
  rcases Nat.eq_zero_or_pos m with h0 | h0
  · subst h0
    have hn : news = [] := List.eq_nil_of_length_eq_zero (by simpa using hr.1)
    subst hn
    refine ⟨.slice (some ⟨g, 0, none⟩) 0 0, w, ?_, ⟨by simp, .inr ⟨g, 0, #[], rfl, hbg, hg, Nat.le_refl _, by simp [maxLen], by simp, by simp⟩⟩, Below.refl _ _⟩
    cases A with
    | none => simp [Builtin.append_, run_underlying ht, sizeOf, typeInfo, hi, Builtin.lenOf, Builtin.firstCells, storeCells]
    | some a =>
      have hf := run_firstCells_some (P := P) w i.size 0 a 0 c [] (by simp) (by simp)
      simp [Builtin.append_, run_underlying ht, sizeOf, typeInfo, hi, Builtin.lenOf, hf, storeCells]
  · obtain ⟨ad, rfl, hb, hc⟩ := hr.2 h0
    obtain ⟨v', w', hrun, hown, hgrow⟩ := run_append_arg_grows (P := P) w t ty e i z size bytes ht hi hz hsize hby hzs hsz ⟨g, 0, none⟩ 0 0 [] (by simp) (by simp) ad m c news hr.1 hc (by omega) (by simp only [maxLen]; omega)
      (Nat.le_trans (Nat.mul_le_mul (show 0 + m ≤ 4294967296 by omega) hbytes) (by omega))
    rw [Nat.zero_add, List.nil_append] at hown
    refine ⟨v', w', hrun, ⟨hown.1, ?_⟩, ⟨hgrow.os, hgrow.tape, hgrow.output, hgrow.size, fun k hk => hgrow.block k hk (by simp)⟩⟩
    rcases hown.2 with h1 | ⟨g', cap, cur, hv, hg', r⟩
    · exact .inl h1
    · exact .inr ⟨g', cap, cur, hv, by omega, r⟩

theorem wp_append_copy {o : Oper} {a : Act} {K : Act → World → Prop} {Q : Exit → Act → World → Prop} (s x : Operand) (t : TypeId)
    (ho : o.op = .call { callee := .builtin .append, args := #[s, x], argTypes := #[t, t] })
    (base : Nat) (e : TypeId) (i : TypeInfo) (z : Value) (size bytes : Nat) (ht : P.underlying t = some (.slice e)) (hi : P.info? e = some i) (hz : i.zero = some z)
    (hsize : i.size = size) (hby : i.bytes = bytes) (hzs : z.cells.size = size) (hsz : 0 < size)
    (g : Nat) (hs : a.eval s = .slice (some ⟨g, 0, none⟩) 0 0) (hg : w.heap[g]? = some (.cells #[] e (0, 0))) (hbg : base ≤ g)
    (B : Nat) (A : Option Addr) (m c : Nat) (news : List Value) (hx : a.eval x = .slice A m c) (hr : Reads w B size A m news) (h63 : m ≤ 4294967296) (hbytes : bytes ≤ 64)
    (h : ∀ v' w', w'.ownsRow base e size v' m news → Below w.heap.size w w' → K (a.put o.dst v') w') : o.wp P a w K Q := by
  obtain ⟨v', w', hrun, h2, h3⟩ := run_append_copy (P := P) base t o.type e i z size bytes ht hi hz hsize hby hzs hsz g hg hbg B A m c news hr h63 hbytes
  unfold Oper.wp execOp
  simp only [ho, resolve, invoke, builtin, Sem.run_bind, Sem.run_pure, Result.andThen_ok, List.map_toArray, List.map_cons, List.map_nil, hs, hx, hrun]
  exact h v' w' h2 h3

theorem wpList_append_copy {ops : Array Oper} {rest : List Oper} {o : Oper} {a : Act} {Q : Exit → Act → World → Prop} (hgd : o.guard = none) (s x : Operand) (t : TypeId)
    (ho : o.op = .call { callee := .builtin .append, args := #[s, x], argTypes := #[t, t] })
    (base : Nat) (e : TypeId) (i : TypeInfo) (z : Value) (size bytes : Nat) (ht : P.underlying t = some (.slice e)) (hi : P.info? e = some i) (hz : i.zero = some z)
    (hsize : i.size = size) (hby : i.bytes = bytes) (hzs : z.cells.size = size) (hsz : 0 < size)
    (g : Nat) (hs : a.eval s = .slice (some ⟨g, 0, none⟩) 0 0) (hg : w.heap[g]? = some (.cells #[] e (0, 0))) (hbg : base ≤ g)
    (B : Nat) (A : Option Addr) (m c : Nat) (news : List Value) (hx : a.eval x = .slice A m c) (hr : Reads w B size A m news) (h63 : m ≤ 4294967296) (hbytes : bytes ≤ 64)
    (h : ∀ v' w', w'.ownsRow base e size v' m news → Below w.heap.size w w' → wpList P ops Q rest (a.put o.dst v') w') : wpList P ops Q (o :: rest) a w :=
  wpList_plain hgd fun _ hK => wp_append_copy s x t ho base e i z size bytes ht hi hz hsize hby hzs hsz g hs hg hbg B A m c news hx hr h63 hbytes fun v' w' h2 h3 => hK _ _ (h v' w' h2 h3)

theorem step_append_copy {ops : Array Oper} {o : Oper} {a : Act} {K : Act → World → Prop} {Q : Exit → Act → World → Prop} {E : Prop} (hgd : o.guard = none) (s x : Operand) (t : TypeId)
    (ho : o.op = .call { callee := .builtin .append, args := #[s, x], argTypes := #[t, t] })
    (base : Nat) (e : TypeId) (i : TypeInfo) (z : Value) (size bytes : Nat) (ht : P.underlying t = some (.slice e)) (hi : P.info? e = some i) (hz : i.zero = some z)
    (hsize : i.size = size) (hby : i.bytes = bytes) (hzs : z.cells.size = size) (hsz : 0 < size)
    (g : Nat) (hs : a.eval s = .slice (some ⟨g, 0, none⟩) 0 0) (hg : w.heap[g]? = some (.cells #[] e (0, 0))) (hbg : base ≤ g)
    (B : Nat) (A : Option Addr) (m c : Nat) (news : List Value) (hx : a.eval x = .slice A m c) (hr : Reads w B size A m news) (h63 : m ≤ 4294967296) (hbytes : bytes ≤ 64)
    (h : ∀ v' w', w'.ownsRow base e size v' m news → Below w.heap.size w w' → K (a.put o.dst v') w') :
    if Region.wanted o (yielded ops a.tmps) = true then Oper.wp P o a w K Q else E := by
  have hw : Region.wanted o (yielded ops a.tmps) = true := by simp [Region.wanted, hgd]
  rw [if_pos hw]
  exact wp_append_copy s x t ho base e i z size bytes ht hi hz hsize hby hzs hsz g hs hg hbg B A m c news hx hr h63 hbytes h

theorem wp_append_bel {o : Oper} {a : Act} {K : Act → World → Prop} {Q : Exit → Act → World → Prop} (s x : Operand) (t : TypeId)
    (ho : o.op = .call { callee := .builtin .append, args := #[s, x], argTypes := #[t, t] })
    (W : World) (base : Nat) (e : TypeId) (i : TypeInfo) (z : Value) (size bytes : Nat) (ht : P.underlying t = some (.slice e)) (hi : P.info? e = some i) (hz : i.zero = some z)
    (hsize : i.size = size) (hby : i.bytes = bytes) (hzs : z.cells.size = size) (hsz : 0 < size)
    (v : Value) (n : Nat) (xs : List Value) (hs : a.eval s = v) (hown : w.ownsRow base e size v n xs)
    (B : Nat) (A : Option Addr) (m c : Nat) (news : List Value) (hx : a.eval x = .slice A m c) (hr : Reads w B size A m news) (h1 : ∀ u ∈ news, u.oneCell' = true)
    (h63 : n + m ≤ 4294967296) (hbytes : bytes ≤ 64) (hbel : Below base W w) (hbase : base ≤ w.heap.size)
    (h : ∀ v' w', w'.ownsRow base e size v' (n + m) (xs ++ news) → Below base W w' → w.grownBy w' v.ownBlock → (v'.ownBlock = v.ownBlock ∨ v'.ownBlock = some w.heap.size) → K (a.put o.dst v') w') : o.wp P a w K Q :=
  wp_append_any w s x t ho base e i z size bytes ht hi hz hsize hby hzs hsz v n xs hs hown B A m c news hx hr h1 (by simp only [maxLen]; omega)
    (Nat.le_trans (Nat.mul_le_mul h63 hbytes) (by omega)) hbase fun v' w' h2 h3 h4 => h v' w' h2 (hbel.grown h3 hbase fun g hg => (hown.lt g hg).1) h3 h4

theorem step_append_bel {W : World} {ops : Array Oper} {o : Oper} {a : Act} {K : Act → World → Prop} {Q : Exit → Act → World → Prop} {E : Prop} (hgd : o.guard = none) (s x : Operand) (t : TypeId)
    (ho : o.op = .call { callee := .builtin .append, args := #[s, x], argTypes := #[t, t] })
    (base : Nat) (e : TypeId) (i : TypeInfo) (z : Value) (size bytes : Nat) (ht : P.underlying t = some (.slice e)) (hi : P.info? e = some i) (hz : i.zero = some z)
    (hsize : i.size = size) (hby : i.bytes = bytes) (hzs : z.cells.size = size) (hsz : 0 < size)
    (v : Value) (n : Nat) (xs : List Value) (hs : a.eval s = v) (hown : w.ownsRow base e size v n xs)
    (B : Nat) (A : Option Addr) (m c : Nat) (news : List Value) (hx : a.eval x = .slice A m c) (hr : Reads w B size A m news) (h1 : ∀ u ∈ news, u.oneCell' = true)
    (h63 : n + m ≤ 4294967296) (hbytes : bytes ≤ 64) (hbel : Below base W w) (hbase : base ≤ w.heap.size)
    (h : ∀ v' w', w'.ownsRow base e size v' (n + m) (xs ++ news) → Below base W w' → w.grownBy w' v.ownBlock → (v'.ownBlock = v.ownBlock ∨ v'.ownBlock = some w.heap.size) → K (a.put o.dst v') w') :
    if Region.wanted o (yielded ops a.tmps) = true then Oper.wp P o a w K Q else E :=
  step_append_any w hgd s x t ho base e i z size bytes ht hi hz hsize hby hzs hsz v n xs hs hown B A m c news hx hr h1 (by simp only [maxLen]; omega)
    (Nat.le_trans (Nat.mul_le_mul h63 hbytes) (by omega)) hbase fun v' w' h2 h3 h4 => h v' w' h2 (hbel.grown h3 hbase fun g hg => (hown.lt g hg).1) h3 h4
end

def ints (vs : List Int) : List Value := vs.map (Value.int .i64)
theorem ints_at {vs : List Int} {k : Nat} {u : Value} (h : (ints vs)[k]? = some u) : ∃ v, vs[k]? = some v ∧ u = .int .i64 v := by
  simp only [ints, List.getElem?_map, Option.map_eq_some_iff] at h
  obtain ⟨v, h1, h2⟩ := h
  exact ⟨v, h1, h2.symm⟩
theorem take_snoc' {α : Type} (l : List α) (k : Nat) (u : α) (h : l[k]? = some u) : l.take (k + 1) = l.take k ++ [u] := by
  rw [List.take_add_one, h]; rfl
theorem own_slice {w : World} {base : Nat} {e : TypeId} {size n : Nat} {v : Value} {xs : List Value} (h : w.ownsRow base e size v n xs) : ∃ A c, v = .slice A n c ∧ Reads w w.heap.size size A n xs := by
  have h' := h
  rcases h.2 with ⟨rfl, rfl⟩ | ⟨g, cap, cur, rfl, _⟩
  · exact ⟨none, 0, rfl, Reads.of_own h'⟩
  · exact ⟨_, _, rfl, Reads.of_own h'⟩

def BelPost (v : Value) (w : World) (e : Ending) (w' : World) : Prop := e = .returned v ∧ Below w.heap.size w w'

theorem below_alloc' {a b : World} (h : Below a.heap.size a b) (o : Obj) : Below a.heap.size a (b.alloc o) := h.alloc h.size o

theorem heap_new' {w : World} {o : Obj} {g : Nat} (hg : w.heap.size = g) : (w.alloc o).heap[g]? = some o := by subst hg; exact heap_alloc_new w o
theorem heap_old' {w : World} {o : Obj} {g : Nat} (hg : g < w.heap.size) : (w.alloc o).heap[g]? = w.heap[g]? := heap_alloc_old w o hg
theorem below_drew' {a b : World} (h : Below a.heap.size a b) : Below a.heap.size a b.drew := h.drew
theorem cell_alloc {w : World} {p : Addr} {v : Value} (h : w.cell? p = some v) (o : Obj) : (w.alloc o).cell? p = some v := (World.cell?_alloc_lt w o p (World.block_lt_of_cell? w p h)).trans h
theorem cell_drew {w : World} {p : Addr} {v : Value} (h : w.cell? p = some v) : w.drew.cell? p = some v := h
theorem cell_bel {w w' : World} {p : Addr} {v : Value} (h : w.cell? p = some v) (hb : Below w.heap.size w w') : w'.cell? p = some v := (hb.cell (World.block_lt_of_cell? w p h)).trans h

theorem grown_bel {a b c : World} {row : Option Nat} (h : a.grownBy b row) (k : Below b.heap.size b c) : a.grownBy c row :=
  ⟨k.os.trans h.os, k.tape.trans h.tape, k.output.trans h.output, Nat.le_trans h.size k.size, fun i hi hn => (k.block i (Nat.lt_of_lt_of_le hi h.size)).trans (h.block i hi hn)⟩
theorem grown_grown {a b c : World} {row : Option Nat} (h : a.grownBy b row) (k : b.grownBy c row) : a.grownBy c row :=
  ⟨k.os.trans h.os, k.tape.trans h.tape, k.output.trans h.output, Nat.le_trans h.size k.size, fun i hi hn => (k.block i (Nat.lt_of_lt_of_le hi h.size) hn).trans (h.block i hi hn)⟩
theorem grown_of_bel {a b : World} {row : Option Nat} (h : Below a.heap.size a b) : a.grownBy b row := ⟨h.os, h.tape, h.output, h.size, fun i hi _ => h.block i hi⟩
end Go.Proofs.YtckdcceglmlinaaDoor
