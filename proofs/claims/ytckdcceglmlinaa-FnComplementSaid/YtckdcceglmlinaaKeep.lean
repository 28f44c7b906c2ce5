/- What a step on a set of numbers keeps; the ranges' plain functions. No condition. -/
import Derived.Test.YtckdcceglmlinaaSmall
import Derived.Test.YtckdcceglmlinaaDraw
namespace Go.Proofs.Ytckdcceglmlinaa
open Go.RowKit
set_option linter.unusedSimpArgs false

/-- From w to w' only the set at g, its row r and what is new have turned; the row is r' now. -/
structure KeepS (w w' : World) (g : Nat) (r r' : Option Nat) : Prop where
  os : w'.os = w.os
  tape : w'.tape = w.tape
  output : w'.output = w.output
  size : w.heap.size ≤ w'.heap.size
  block : ∀ j, j < w.heap.size → j ≠ g → some j ≠ r → w'.heap[j]? = w.heap[j]?
  next : r' = r ∨ ∃ h, r' = some h ∧ w.heap.size ≤ h

section
variable {w a b : World} {g : Nat} {r r1 r2 : Option Nat}
theorem KeepS.refl (w : World) (g : Nat) (r : Option Nat) : KeepS w w g r r := ⟨rfl, rfl, rfl, Nat.le_refl _, fun _ _ _ _ => rfl, .inl rfl⟩
theorem KeepS.of_below (h : Below w.heap.size w a) (g : Nat) (r : Option Nat) : KeepS w a g r r := ⟨h.os, h.tape, h.output, h.size, fun j hj _ _ => h.block j hj, .inl rfl⟩
theorem KeepS.below (k : KeepS w a g r r1) (h : Below a.heap.size a b) : KeepS w b g r r1 :=
  ⟨h.os.trans k.os, h.tape.trans k.tape, h.output.trans k.output, Nat.le_trans k.size h.size, fun j hj h1 h2 => (h.block j (Nat.lt_of_lt_of_le hj k.size)).trans (k.block j hj h1 h2), k.next⟩
theorem KeepS.grown (k : KeepS w a g r r1) (h : a.grownBy b r1) (hat : r2 = r1 ∨ ∃ x, r2 = some x ∧ a.heap.size ≤ x) : KeepS w b g r r2 :=
  ⟨h.os.trans k.os, h.tape.trans k.tape, h.output.trans k.output, Nat.le_trans k.size h.size, fun j hj h1 h2 => by
      have hne : some j ≠ r1 := by
        rcases k.next with e | ⟨x, e, hx⟩
        · rw [e]; exact h2
        · rw [e]; intro he; injection he with he; omega
      exact (h.block j (Nat.lt_of_lt_of_le hj k.size) hne).trans (k.block j hj h1 h2),
    by
      rcases hat with e | ⟨x, e, hx⟩
      · rw [e]; exact k.next
      · exact .inr ⟨x, e, Nat.le_trans k.size hx⟩⟩
theorem KeepS.set (k : KeepS w a g r r1) (i : Nat) (u : Value) : KeepS w (a.setCell ⟨g, i, none⟩ u) g r r1 :=
  ⟨k.os, k.tape, k.output, by simp [World.setCell]; exact k.size, fun j hj h1 h2 => (Below.heap_setCell _ _ _ _ h1).trans (k.block j hj h1 h2), k.next⟩
theorem KeepS.trans (k : KeepS w a g r r1) (m : KeepS a b g r1 r2) : KeepS w b g r r2 :=
  ⟨m.os.trans k.os, m.tape.trans k.tape, m.output.trans k.output, Nat.le_trans k.size m.size, fun j hj h1 h2 => by
      have hne : some j ≠ r1 := by
        rcases k.next with e | ⟨x, e, hx⟩
        · rw [e]; exact h2
        · rw [e]; intro he; injection he with he; omega
      exact (m.block j (Nat.lt_of_lt_of_le hj k.size) h1 hne).trans (k.block j hj h1 h2),
    by
      rcases m.next with e | ⟨x, e, hx⟩
      · rw [e]; exact k.next
      · exact .inr ⟨x, e, Nat.le_trans k.size hx⟩⟩
theorem KeepS.toBelow (k : KeepS w a g r r1) {B : Nat} (hB : B ≤ w.heap.size) (hg : B ≤ g) (hr : ∀ x, r = some x → B ≤ x) : Below B w a :=
  ⟨k.os, k.tape, k.output, k.size, fun j hj => k.block j (by omega) (by omega) (fun e => by have := hr j e.symm; omega)⟩
end

theorem own_set_other {w : World} {base g n size : Nat} {e t : TypeId} {v : Value} {xs : List Value} {cs : Array Value} (hown : w.ownsRow base e size v n xs) (hg : Blk w g t cs) (hne : e ≠ t) (i : Nat) (u : Value) :
    (w.setCell ⟨g, i, none⟩ u).ownsRow base e size v n xs := by
  have hset : w.grownBy (w.setCell ⟨g, i, none⟩ u) (some g) := ⟨rfl, rfl, rfl, by simp [World.setCell], fun j _ hj => Below.heap_setCell _ _ _ _ (fun e => hj (by rw [e]))⟩
  exact hown.kept hset (.inr (own_blk_ne hown hg hne))

/-- A new row stored as a set's. -/
theorem setAt_store {w : World} {base g n : Nat} {v old : Value} {L : List Rg} (hg : Blk w g 72 #[old, .bool false]) (hb : base ≤ g) (hown : w.ownsRow base 68 2 v n (flat L)) (hn : n = L.length) :
    SetAt (w.setCell ⟨g, 0, none⟩ v) base g v.ownBlock L := by
  subst hn
  have hne := own_blk_ne hown hg (by decide)
  obtain ⟨A, c, rfl, _⟩ := own_slice hown
  refine ⟨A, c, hg.set_ 0 _, ?_, rfl, hb⟩
  have hset : w.grownBy (w.setCell ⟨g, 0, none⟩ (.slice A L.length c)) (some g) := ⟨rfl, rfl, rfl, by simp [World.setCell], fun j _ hj => Below.heap_setCell _ _ _ _ (fun e => hj (by rw [e]))⟩
  exact hown.kept hset (.inr hne)

theorem setAt_row {W : World} {base g rb c n : Nat} {L : List Rg} (hb : Blk W g 72 #[.slice (some ⟨rb, 0, none⟩) n c, .bool false]) (ho : W.ownsRow base 68 2 (.slice (some ⟨rb, 0, none⟩) n c) n (flat L)) (hn : n = L.length) (hbg : base ≤ g) : SetAt W base g (some rb) L := by
  subst hn; exact ⟨_, _, hb, ho, rfl, hbg⟩
theorem own_cut {w : World} {base g k n c size : Nat} {e : TypeId} {xs : List Value} (h : w.ownsRow base e size (.slice (some ⟨g, 0, none⟩) n c) n xs) (hk : k ≤ n) : w.ownsRow base e size (.slice (some ⟨g, 0, none⟩) k c) k (xs.take (k * size)) := by
  have hle := Nat.mul_le_mul_right size hk
  refine ⟨by rw [List.length_take, h.1]; omega, ?_⟩
  rcases h.2 with ⟨h0, _⟩ | ⟨g', cap, cur, hv, h1, h2, h3, h4, h5, h6⟩
  · cases h0
  · cases hv
    refine .inr ⟨g, c, cur, rfl, h1, h2, by omega, h4, h5, ?_⟩
    rw [← h6, List.take_take, Nat.min_eq_left hle]
theorem add_lit (rb k : Nat) : (⟨rb, 0, none⟩ : Addr).add k = ⟨rb, k, none⟩ := by
  unfold Addr.add
  by_cases h : k = 0 <;> simp [h]
theorem reads_drop {w : World} {base g k n c : Nat} {e : TypeId} {L : List Rg} (h : w.ownsRow base e 2 (.slice (some ⟨g, 0, none⟩) n c) n (flat L)) (_hk : k ≤ n) : Reads w w.heap.size 2 (some ⟨g, k * 2, none⟩) (n - k) (flat (L.drop k)) := by
  have hr := Reads.of_own h
  refine ⟨by rw [flat_drop, List.length_drop, h.1, Nat.sub_mul], fun hn => ?_⟩
  obtain ⟨ad, hA, hb, hc⟩ := hr.2 (by omega)
  cases hA
  refine ⟨_, rfl, hb, fun j u hu => ?_⟩
  rw [flat_drop, List.getElem?_drop] at hu
  have := hc _ u hu
  rw [add_lit] at this
  rw [← add_lit g (k * 2), add_of_add, add_lit]
  exact this
def SetPost (base g : Nat) (r : Option Nat) (L : List Rg) (w : World) (e : Ending) (w' : World) : Prop := ∃ r', e = .returned (.tuple #[]) ∧ SetAt w' base g r' L ∧ KeepS w w' g r r'

theorem set_at {L : List Rg} {k : Nat} {r x : Rg} (h : L[k]? = some r) : L.set k x = L.take k ++ x :: L.drop (k + 1) := by
  have hlt : k < L.length := (List.getElem?_eq_some_iff.1 h).1
  rw [List.set_eq_take_append_cons_drop, if_pos hlt]
theorem set_take {L : List Rg} {k : Nat} {r x : Rg} (h : L[k]? = some r) : (L.set k x).take (k + 1) = L.take k ++ [x] := by
  have hlt : k < L.length := (List.getElem?_eq_some_iff.1 h).1
  rw [take_snoc' _ k x (by simp [hlt]), List.take_set_of_le (Nat.le_refl _)]
theorem set_drop {L : List Rg} {k : Nat} {r x : Rg} (_h : L[k]? = some r) : (L.set k x).drop (k + 2) = L.drop (k + 2) := by
  rw [List.drop_set_of_lt (by omega)]
theorem flat_set {L : List Rg} {k : Nat} {r : Rg} (h : L[k]? = some r) (x y : Int) : ((flat L).set (k * 2) (.int .i64 x)).set (k * 2 + 1) (.int .i64 y) = flat (L.set k (x, y)) := by
  induction L generalizing k with
  | nil => simp at h
  | cons a t ih =>
    cases k with
    | zero => rfl
    | succ k =>
      rw [show (k + 1) * 2 = k * 2 + 1 + 1 by omega]
      simp only [flat, List.set_cons_succ]
      rw [ih (k := k) (by simpa using h)]
theorem flat_set1 {L : List Rg} {k : Nat} {r : Rg} (h : L[k]? = some r) (x : Int) : (flat L).set (k * 2) (.int .i64 x) = flat (L.set k (x, r.2)) := by
  rw [← flat_set h]
  apply List.ext_getElem?
  intro j
  rw [List.getElem?_set, List.getElem?_set, List.getElem?_set]
  by_cases h1 : k * 2 + 1 = j
  · subst h1
    have := (flat_at h).2
    have hl : k * 2 + 1 < (flat L).length := (List.getElem?_eq_some_iff.1 this).1
    have h5 : (flat L)[k * 2 + 1] = .int .i64 r.2 := by rw [List.getElem?_eq_getElem hl] at this; injection this
    simp [hl, h5]
  · simp [h1]
/-- a range joined with the one behind it -/
def mergeHd (p q : Int) : List Rg → List Rg
  | [] => [(p, q)]
  | (s, e) :: t => if e ≤ q then (p, q) :: t else if s ≤ q then (p, e) :: t else (p, q) :: (s, e) :: t
/-- addInterval -/
def addI (a b : Int) : List Rg → List Rg
  | [] => [(a, b)]
  | (s, e) :: t => if b < s then (a, b) :: (s, e) :: t else if b = s then (a, e) :: t else if a ≤ e then mergeHd (imin s a) (imax e b) t else (s, e) :: addI a b t
end Go.Proofs.Ytckdcceglmlinaa
