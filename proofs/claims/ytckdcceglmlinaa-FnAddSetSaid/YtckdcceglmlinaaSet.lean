/- Sets of numbers as lists of ranges: how they lie in memory, and the walks of what only reads them. Condition: the numbers are small. -/
import Derived.Test.YtckdcceglmlinaaLib2
import Derived.Handy
namespace Go.Proofs.Ytckdcceglmlinaa
open Go.RowKit
set_option linter.unusedSimpArgs false

abbrev Rg := Int × Int
def flat : List Rg → List Value
  | [] => []
  | r :: t => .int .i64 r.1 :: .int .i64 r.2 :: flat t
theorem flat_length (L : List Rg) : (flat L).length = L.length * 2 := by
  induction L with
  | nil => rfl
  | cons r t ih => simp [flat, ih]; omega
theorem flat_append (L M : List Rg) : flat (L ++ M) = flat L ++ flat M := by
  induction L with
  | nil => rfl
  | cons r t ih => simp [flat, ih]
theorem flat_at {L : List Rg} {k : Nat} {r : Rg} (h : L[k]? = some r) : (flat L)[k * 2]? = some (.int .i64 r.1) ∧ (flat L)[k * 2 + 1]? = some (.int .i64 r.2) := by
  induction L generalizing k with
  | nil => simp at h
  | cons a t ih =>
    cases k with
    | zero => simp at h; subst h; exact ⟨rfl, rfl⟩
    | succ k =>
      have := ih (k := k) (by simpa using h)
      rw [show (k + 1) * 2 = k * 2 + 1 + 1 by omega]
      exact this
theorem flat_take (L : List Rg) (k : Nat) : flat (L.take k) = (flat L).take (k * 2) := by
  induction L generalizing k with
  | nil => simp [flat]
  | cons a t ih =>
    cases k with
    | zero => simp [flat]
    | succ k => rw [show (k + 1) * 2 = k * 2 + 1 + 1 by omega]; simp [flat, ih]
theorem flat_drop (L : List Rg) (k : Nat) : flat (L.drop k) = (flat L).drop (k * 2) := by
  induction L generalizing k with
  | nil => simp [flat]
  | cons a t ih =>
    cases k with
    | zero => simp [flat]
    | succ k => rw [show (k + 1) * 2 = k * 2 + 1 + 1 by omega]; simp [flat, ih]
theorem flat_one (L : List Rg) : ∀ u ∈ flat L, u.oneCell' = true := by
  induction L with
  | nil => simp [flat]
  | cons a t ih => intro u hu; simp only [flat, List.mem_cons] at hu; rcases hu with rfl | rfl | h; rfl; rfl; exact ih u h

/-- The ranges lie at A. -/
theorem Reads.rg {w : World} {B : Nat} {A : Option Addr} {L : List Rg} {k : Nat} {r : Rg} (h : Reads w B 2 A L.length (flat L)) (hk : L[k]? = some r) :
    ∃ b off, A = some ⟨b, off, none⟩ ∧ b < B ∧ w.cell? ⟨b, off + k * 2, none⟩ = some (.int .i64 r.1) ∧ w.cell? ⟨b, off + k * 2 + 1, none⟩ = some (.int .i64 r.2) := by
  have hlt : k < L.length := (List.getElem?_eq_some_iff.1 hk).1
  obtain ⟨b, off, u, v, e, hb, hu, hv, cu, cv⟩ := h.at2 hlt
  obtain ⟨h1, h2⟩ := flat_at hk
  rw [hu] at h1; rw [hv] at h2
  cases h1; cases h2
  exact ⟨b, off, e, hb, cu, cv⟩

/-- A set lies at g. -/
def SetR (w : World) (g : Nat) (L : List Rg) : Prop := ∃ A c, Blk w g 72 #[.slice A L.length c, .bool false] ∧ Reads w w.heap.size 2 A L.length (flat L)
/-- The same, its row is the call's own. -/
def SetAt (w : World) (base g : Nat) (r : Option Nat) (L : List Rg) : Prop :=
  ∃ A c, Blk w g 72 #[.slice A L.length c, .bool false] ∧ w.ownsRow base 68 2 (.slice A L.length c) L.length (flat L) ∧ (Value.slice A L.length c).ownBlock = r ∧ base ≤ g
theorem SetAt.read {w : World} {base g : Nat} {r : Option Nat} {L : List Rg} (h : SetAt w base g r L) : SetR w g L := by
  obtain ⟨A, c, h1, h2, _⟩ := h
  exact ⟨A, c, h1, Reads.of_own h2⟩
theorem SetR.below {w w' : World} {g : Nat} {L : List Rg} (h : SetR w g L) (hb : Below w.heap.size w w') : SetR w' g L := by
  obtain ⟨A, c, h1, h2⟩ := h
  exact ⟨A, c, h1.below hb h1.lt, h2.ext hb⟩
def Sm (L : List Rg) : Prop := L.length ≤ 100 ∧ ∀ r ∈ L, 0 ≤ r.1 ∧ r.1 ≤ 100 ∧ 0 ≤ r.2 ∧ r.2 ≤ 100

theorem NewInterval_any (a b : Int) (w : World) : Calls Try.prog 41 #[.int .i64 a, .int .i64 b] w (fun e w' => e = .returned (.agg #[.int .i64 a, .int .i64 b]) ∧ Below w.heap.size w w') := by
  go_enter Try.func41, Try.ntmps41
  go_wp2
  go_returns
  refine ⟨rfl, ?_⟩
  exact (Below.refl _ _).alloc (Nat.le_refl _) _
def imin (a b : Int) : Int := if a < b then a else b
def imax (a b : Int) : Int := if b < a then a else b
theorem intMin_any (a b : Int) (w : World) : Calls Try.prog 56 #[.int .i64 a, .int .i64 b] w (fun e w' => e = .returned (.int .i64 (imin a b)) ∧ w = w') := by
  by_cases h : a < b
  · have HD := Lib.hid (show Ending.returned (Value.int .i64 a) = Ending.returned (.int .i64 (imin a b)) by unfold imin; rw [if_pos h])
    go_enter Try.func56, Try.ntmps56
    go_wp2
    go_ret
    exact ⟨HD.out, rfl⟩
  · have HD := Lib.hid (show Ending.returned (Value.int .i64 b) = Ending.returned (.int .i64 (imin a b)) by unfold imin; rw [if_neg h])
    go_enter Try.func56, Try.ntmps56
    go_wp2
    go_ret
    exact ⟨HD.out, rfl⟩
theorem intMax_any (a b : Int) (w : World) : Calls Try.prog 57 #[.int .i64 a, .int .i64 b] w (fun e w' => e = .returned (.int .i64 (imax a b)) ∧ w = w') := by
  by_cases h : b < a
  · have HD := Lib.hid (show Ending.returned (Value.int .i64 a) = Ending.returned (.int .i64 (imax a b)) by unfold imax; rw [if_pos h])
    go_enter Try.func57, Try.ntmps57
    go_wp2
    go_ret
    exact ⟨HD.out, rfl⟩
  · have HD := Lib.hid (show Ending.returned (Value.int .i64 b) = Ending.returned (.int .i64 (imax a b)) by unfold imax; rw [if_neg h])
    go_enter Try.func57, Try.ntmps57
    go_wp2
    go_ret
    exact ⟨HD.out, rfl⟩
def inR (n : Int) (r : Rg) : Bool := decide (r.1 ≤ n) && decide (n < r.2)
theorem inContains_any (a b n : Int) (w : World) : Calls Try.prog 53 #[.agg #[.int .i64 a, .int .i64 b], .int .i64 n] w (fun e w' => e = .returned (.bool (inR n (a, b))) ∧ Below w.heap.size w w') := by
  by_cases h : a ≤ n
  · by_cases h2 : n < b
    · go_enter Try.func53, Try.ntmps53
      go_wp2
      go_ret
      refine ⟨by simp [inR, h, h2], ?_⟩
      exact (Below.refl _ _).alloc (Nat.le_refl _) _
    · go_enter Try.func53, Try.ntmps53
      go_wp2
      go_ret
      refine ⟨by simp [inR, h, h2], ?_⟩
      exact (Below.refl _ _).alloc (Nat.le_refl _) _
  · go_enter Try.func53, Try.ntmps53
    go_wp2
    go_ret
    refine ⟨by simp [inR]; omega, ?_⟩
    exact (Below.refl _ _).alloc (Nat.le_refl _) _
theorem inLength_any (a b : Int) (w : World) (h : 0 ≤ a ∧ a ≤ 100 ∧ 0 ≤ b ∧ b ≤ 100) : Calls Try.prog 54 #[.agg #[.int .i64 a, .int .i64 b]] w (fun e w' => e = .returned (.int .i64 (b - a)) ∧ Below w.heap.size w w') := by
  go_enter Try.func54, Try.ntmps54
  go_wp2
  go_ret
  refine ⟨?_, (Below.refl _ _).alloc (Nat.le_refl _) _⟩
  go_num
end Go.Proofs.Ytckdcceglmlinaa
