/- Choices of stacks as trees, their hash, and how they lie in memory. No condition. -/
import Derived.Test.YtcbabfndfikejaaLib3
namespace Go.Proofs.Ytcbabfndfikejaa
open Go.RowKit

/-- The tops of a choice: each has a state, and a choice (its kind and its tops) below it. Kinds: 0 the empty stack, 1 one top, 2 an array. -/
inductive Tops where
  | nil
  | cons (s : Int) (k : Nat) (sub : Tops) (rest : Tops)
deriving DecidableEq

def Tops.len : Tops → Nat
  | .nil => 0
  | .cons _ _ _ r => r.len + 1
def Tops.sts : Tops → List Int
  | .nil => []
  | .cons s _ _ r => s :: r.sts
def hashOf (k : Nat) (hs ss : List Int) : Int := if k = 0 then 0 else murF (murL 1 (hs ++ ss)) (2 * ss.length)
/-- the hashes of what is below the tops -/
def Tops.hs : Tops → List Int
  | .nil => []
  | .cons _ k sub r => hashOf k sub.hs sub.sts :: r.hs
def hsh (k : Nat) (f : Tops) : Int := hashOf k f.hs f.sts
theorem Tops.hs_length : ∀ f : Tops, f.hs.length = f.len
  | .nil => rfl
  | .cons _ _ _ r => by simp [Tops.hs, Tops.len, Tops.hs_length r]
theorem Tops.sts_length : ∀ f : Tops, f.sts.length = f.len
  | .nil => rfl
  | .cons _ _ _ r => by simp [Tops.sts, Tops.len, Tops.sts_length r]

/-- The element types of what choices are made of: the struct, the row of pointers, the row of numbers. -/
def ctxTy (e : TypeId) : Prop := e = 97 ∨ e = 72 ∨ e = 3
/-- A row known in memory: n cells of type e from an address on, in a block that X does not name. -/
def Row (w : World) (X : Nat → Prop) (e : TypeId) (A : Option Addr) (n : Nat) (xs : List Value) : Prop :=
  xs.length = n ∧ (0 < n → ∃ g off cs, A = some ⟨g, off, none⟩ ∧ ¬ X g ∧ w.heap[g]? = some (.cells cs e (0, 0)) ∧ ∀ (j : Nat) u, xs[j]? = some u → cs[off + j]? = some u)
def NoX : Nat → Prop := fun _ => False
/-- What choices are made of, outside X, stays, and is outside X'. -/
def Move (X X' : Nat → Prop) (w w' : World) : Prop :=
  ∀ (g : Nat) cs e, ctxTy e → ¬ X g → w.heap[g]? = some (.cells cs e (0, 0)) → w'.heap[g]? = some (.cells cs e (0, 0)) ∧ ¬ X' g
/-- What choices are made of stays. -/
def Stay (w w' : World) : Prop := w.heap.size ≤ w'.heap.size ∧ ∀ (g : Nat) cs e, ctxTy e → w.heap[g]? = some (.cells cs e (0, 0)) → w'.heap[g]? = some (.cells cs e (0, 0))
theorem Stay.refl (w : World) : Stay w w := ⟨Nat.le_refl _, fun _ _ _ _ h => h⟩
theorem Stay.trans {a b c : World} (h : Stay a b) (k : Stay b c) : Stay a c := ⟨Nat.le_trans h.1 k.1, fun g cs e he hg => k.2 g cs e he (h.2 g cs e he hg)⟩
theorem Stay.of_below {w w' : World} (h : Below w.heap.size w w') : Stay w w' :=
  ⟨h.size, fun g _ _ _ hg => (h.block g (Array.getElem?_eq_some_iff.1 hg).1).trans hg⟩
theorem Stay.alloc {a w : World} (h : Stay a w) (o : Obj) : Stay a (w.alloc o) := h.trans (.of_below ((Below.refl _ _).alloc (Nat.le_refl _) o))
theorem Stay.drew {a w : World} (h : Stay a w) : Stay a w.drew := ⟨h.1, h.2⟩
theorem Stay.move {w w' : World} (h : Stay w w') (X : Nat → Prop) : Move X X w w' := fun g cs e he hx hg => ⟨h.2 g cs e he hg, hx⟩
theorem Move.trans {X Y Z : Nat → Prop} {a b c : World} (h : Move X Y a b) (k : Move Y Z b c) : Move X Z a c := fun g cs e he hx hg => by
  obtain ⟨h1, h2⟩ := h g cs e he hx hg
  exact k g cs e he h2 h1

theorem Row.move {w w' : World} {X X' : Nat → Prop} {e : TypeId} {A : Option Addr} {n : Nat} {xs : List Value} (h : Row w X e A n xs) (hs : Move X X' w w') (he : ctxTy e) : Row w' X' e A n xs :=
  ⟨h.1, fun hn => by
    obtain ⟨g, off, cs, hA, hx, hg, hc⟩ := h.2 hn
    obtain ⟨h1, h2⟩ := hs g cs e he hx hg
    exact ⟨g, off, cs, hA, h2, h1, hc⟩⟩
theorem Row.reads {w : World} {X : Nat → Prop} {e : TypeId} {A : Option Addr} {n : Nat} {xs : List Value} (h : Row w X e A n xs) : Reads w w.heap.size 1 A n xs :=
  ⟨by rw [h.1, Nat.mul_one], fun hn => by
    obtain ⟨g, off, cs, rfl, _, hg, hc⟩ := h.2 hn
    refine ⟨_, rfl, (Array.getElem?_eq_some_iff.1 hg).1, fun j u hu => ?_⟩
    rw [Addr.add_lit, cell_of_row _ _ _ _ _ _ hg]
    exact hc j u hu⟩
theorem Row.of_own {w : World} {X : Nat → Prop} {base : Nat} {e : TypeId} {n c : Nat} {A : Option Addr} {xs : List Value} (h : w.ownsRow base e 1 (.slice A n c) n xs)
    (hX : ∀ g, (Value.slice A n c).ownBlock = some g → ¬ X g) : Row w X e A n xs := by
  refine ⟨by rw [h.1, Nat.mul_one], fun hn => ?_⟩
  rcases h.2 with ⟨h1, h2⟩ | ⟨g, cap, cur, hv, _, hg, hnc, _, hsz, ht⟩
  · omega
  · have hx := hX g (by rw [hv]; rfl)
    injection hv with hA
    refine ⟨g, 0, cur, hA, hx, hg, fun j u hu => ?_⟩
    rw [← ht, List.getElem?_take] at hu
    split at hu
    · simpa using hu
    · cases hu

def ptrs (qs : List Addr) : List Value := qs.map fun q => Value.pointer (some q)
theorem ptrs_length (qs : List Addr) : (ptrs qs).length = qs.length := by simp [ptrs]
theorem ptrs_at {qs : List Addr} {k : Nat} {u : Value} (h : (ptrs qs)[k]? = some u) : ∃ q, qs[k]? = some q ∧ u = .pointer (some q) := by
  simp only [ptrs, List.getElem?_map, Option.map_eq_some_iff] at h
  obtain ⟨q, h1, h2⟩ := h
  exact ⟨q, h1, h2.symm⟩

/-- The struct of a choice at block g: its kind, its hash, its states, and the addresses of what is below. -/
def Shape (w : World) (X : Nat → Prop) (g : Nat) (k : Nat) (h : Int) (ss : List Int) (qs : List Addr) : Prop :=
  ¬ X g ∧ qs.length = ss.length ∧
  ((k = 0 ∧ ss = [] ∧ w.heap[g]? = some (.cells #[.int .i64 h, .int .i64 0, .pointer none, .int .i64 2147483647, .slice none 0 0, .slice none 0 0] 97 (0, 0))) ∨
   (k = 1 ∧ ∃ s q, ss = [s] ∧ qs = [q] ∧ w.heap[g]? = some (.cells #[.int .i64 h, .int .i64 1, .pointer (some q), .int .i64 s, .slice none 0 0, .slice none 0 0] 97 (0, 0))) ∨
   (k = 2 ∧ ∃ A c A' c', w.heap[g]? = some (.cells #[.int .i64 h, .int .i64 2, .pointer none, .int .i64 0, .slice A ss.length c, .slice A' ss.length c'] 97 (0, 0)) ∧ Row w X 72 A ss.length (ptrs qs) ∧ Row w X 3 A' ss.length (ints ss)))
theorem Shape.move {w w' : World} {X X' : Nat → Prop} {g k : Nat} {h : Int} {ss : List Int} {qs : List Addr} (H : Shape w X g k h ss qs) (hs : Move X X' w w') : Shape w' X' g k h ss qs := by
  obtain ⟨hx, h0, H⟩ := H
  rcases H with ⟨h1, h2, h3⟩ | ⟨h1, s, q, h2, h3, h4⟩ | ⟨h1, A, c, A', c', h2, h3, h4⟩
  · obtain ⟨m1, m2⟩ := hs _ _ _ (.inl rfl) hx h3
    exact ⟨m2, h0, .inl ⟨h1, h2, m1⟩⟩
  · obtain ⟨m1, m2⟩ := hs _ _ _ (.inl rfl) hx h4
    exact ⟨m2, h0, .inr (.inl ⟨h1, s, q, h2, h3, m1⟩)⟩
  · obtain ⟨m1, m2⟩ := hs _ _ _ (.inl rfl) hx h2
    exact ⟨m2, h0, .inr (.inr ⟨h1, A, c, A', c', m1, h3.move hs (.inr (.inl rfl)), h4.move hs (.inr (.inr rfl))⟩)⟩

/-- The choices below tops lie at addresses. -/
def Subs (w : World) (X : Nat → Prop) : Tops → List Addr → Prop
  | .nil, qs => qs = []
  | .cons _ k sub r, qs => ∃ g qr, qs = ⟨g, 0, none⟩ :: qr ∧ (∃ qs', Shape w X g k (hsh k sub) sub.sts qs' ∧ Subs w X sub qs') ∧ Subs w X r qr
/-- The choice (k, f) lies at p, outside X. -/
def Rep (w : World) (X : Nat → Prop) (p : Addr) (k : Nat) (f : Tops) : Prop := ∃ g, p = ⟨g, 0, none⟩ ∧ ∃ qs, Shape w X g k (hsh k f) f.sts qs ∧ Subs w X f qs
theorem Subs.move {w w' : World} {X X' : Nat → Prop} (hs : Move X X' w w') : ∀ (f : Tops) (qs : List Addr), Subs w X f qs → Subs w' X' f qs
  | .nil, _, h => h
  | .cons _ _ sub r, _, ⟨g, qr, h1, ⟨qs', h2, h3⟩, h4⟩ => ⟨g, qr, h1, ⟨qs', h2.move hs, Subs.move hs sub qs' h3⟩, Subs.move hs r qr h4⟩
theorem Rep.move {w w' : World} {X X' : Nat → Prop} {p : Addr} {k : Nat} {f : Tops} (h : Rep w X p k f) (hs : Move X X' w w') : Rep w' X' p k f := by
  obtain ⟨g, hp, qs, h1, h2⟩ := h
  exact ⟨g, hp, qs, h1.move hs, Subs.move hs f qs h2⟩
theorem Rep.stay {w w' : World} {X : Nat → Prop} {p : Addr} {k : Nat} {f : Tops} (h : Rep w X p k f) (hs : Stay w w') : Rep w' X p k f := h.move (hs.move X)
theorem Subs.stay {w w' : World} {X : Nat → Prop} {f : Tops} {qs : List Addr} (h : Subs w X f qs) (hs : Stay w w') : Subs w' X f qs := h.move (hs.move X) f qs
theorem Row.stay {w w' : World} {X : Nat → Prop} {e : TypeId} {A : Option Addr} {n : Nat} {xs : List Value} (h : Row w X e A n xs) (hs : Stay w w') (he : ctxTy e) : Row w' X e A n xs := h.move (hs.move X) he
theorem Subs.length {w : World} {X : Nat → Prop} : ∀ (f : Tops) (qs : List Addr), Subs w X f qs → qs.length = f.len
  | .nil, _, h => by rw [h]; rfl
  | .cons _ _ sub r, _, ⟨g, qr, h1, _, h4⟩ => by rw [h1]; simp [Tops.len, Subs.length r qr h4]
/-- The choice below top i. -/
def Tops.at? : Tops → Nat → Option (Int × Nat × Tops)
  | .nil, _ => none
  | .cons s k sub _, 0 => some (s, k, sub)
  | .cons _ _ _ r, i + 1 => r.at? i
theorem Subs.at_ {w : World} {X : Nat → Prop} : ∀ (f : Tops) (qs : List Addr) (i : Nat) (q : Addr), Subs w X f qs → qs[i]? = some q → ∃ s k sub, f.at? i = some (s, k, sub) ∧ Rep w X q k sub
  | .nil, qs, i, q, h, hi => by rw [h] at hi; simp at hi
  | .cons s k sub r, qs, 0, q, ⟨g, qr, h1, h2, _⟩, hi => by
    rw [h1] at hi; simp at hi; subst hi
    exact ⟨s, k, sub, rfl, g, rfl, h2⟩
  | .cons s k sub r, qs, i + 1, q, ⟨g, qr, h1, _, h4⟩, hi => by
    rw [h1] at hi; simp at hi
    exact Subs.at_ r qr i q h4 hi
theorem Tops.at_hs : ∀ (f : Tops) (i : Nat) (s : Int) (k : Nat) (sub : Tops), f.at? i = some (s, k, sub) → f.hs[i]? = some (hsh k sub) ∧ f.sts[i]? = some s
  | .nil, _, _, _, _, h => by simp [Tops.at?] at h
  | .cons _ _ _ _, 0, _, _, _, h => by simp [Tops.at?] at h; obtain ⟨rfl, rfl, rfl⟩ := h; exact ⟨rfl, rfl⟩
  | .cons _ _ _ r, i + 1, s, k, sub, h => by simpa [Tops.hs, Tops.sts] using Tops.at_hs r i s k sub h
/-- The cells of a choice's struct: its hash and its kind. -/
theorem Rep.head {w : World} {X : Nat → Prop} {p : Addr} {k : Nat} {f : Tops} (h : Rep w X p k f) : ∃ g c2 c3 c4 c5, p = ⟨g, 0, none⟩ ∧ ¬ X g ∧ w.heap[g]? = some (.cells #[.int .i64 (hsh k f), .int .i64 k, c2, c3, c4, c5] 97 (0, 0)) := by
  obtain ⟨g, hp, qs, ⟨hx, _, H⟩, _⟩ := h
  rcases H with ⟨rfl, h2, h3⟩ | ⟨rfl, s, q, h2, h3, h4⟩ | ⟨rfl, A, c, A', c', h2, h3, h4⟩
  · exact ⟨g, _, _, _, _, hp, hx, h3⟩
  · exact ⟨g, _, _, _, _, hp, hx, h4⟩
  · exact ⟨g, _, _, _, _, hp, hx, h2⟩
theorem Rep.cell {w : World} {X : Nat → Prop} {p : Addr} {k : Nat} {f : Tops} (h : Rep w X p k f) : ∃ g, p = ⟨g, 0, none⟩ ∧ w.cell? ⟨g, 0, none⟩ = some (.int .i64 (hsh k f)) ∧ w.cell? ⟨g, 1, none⟩ = some (.int .i64 k) := by
  obtain ⟨g, c2, c3, c4, c5, hp, _, hg⟩ := h.head
  exact ⟨g, hp, by rw [cell_of_row _ _ _ _ _ _ hg]; rfl, by rw [cell_of_row _ _ _ _ _ _ hg]; rfl⟩
end Go.Proofs.Ytcbabfndfikejaa
