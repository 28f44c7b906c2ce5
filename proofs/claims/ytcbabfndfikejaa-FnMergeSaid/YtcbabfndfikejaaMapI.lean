/- Maps with whole numbers as keys, as lists of pairs: the laws of a look-up and of a store. No condition. -/
import Derived.Test.YtcbabfndfikejaaQ1
import Derived.MapKept
namespace Go.Proofs.Ytcbabfndfikejaa
open Go.RowKit

/-- the pairs of a map -/
abbrev Prs := List (Int × Value)
def Prs.look : Prs → Int → Option Value
  | [], _ => none
  | (x, v) :: t, h => if h = x then some v else Prs.look t h
def Prs.put : Prs → Int → Value → Prs
  | [], h, v => [(h, v)]
  | (x, u) :: t, h, v => if h = x then (x, v) :: t else (x, u) :: Prs.put t h v
def Prs.idx : Prs → Int → Nat → Option (Nat × Value)
  | [], _, _ => none
  | (x, v) :: t, h, i => if h = x then some (i, v) else Prs.idx t h (i + 1)
def Fits (l : List MapEntry) (D : Prs) : Prop := l.map (fun e => (e.key, e.val)) = D.map fun x => (Value.int .i64 x.1, x.2)
/-- Block m is a map of these pairs. -/
def MapAt (w : World) (m : Nat) (D : Prs) : Prop := ∃ es clock, w.heap[m]? = some (.map es clock) ∧ Fits es.toList D
theorem Prs.idx_look : ∀ (D : Prs) (h : Int) (i : Nat), (D.idx h i).map (·.2) = D.look h
  | [], _, _ => rfl
  | (x, v) :: t, h, i => by
    unfold Prs.idx Prs.look
    split
    · rfl
    · exact Prs.idx_look t h (i + 1)
theorem findNow_fits : ∀ (l : List MapEntry) (D : Prs) (h : Int) (i : Nat), Fits l D → Instr.findNow (.int .i64) (.int .i64 h) l i = some (D.idx h i)
  | [], [], _, _, _ => rfl
  | [], _ :: _, _, _, hf => by simp [Fits] at hf
  | _ :: _, [], _, _, hf => by simp [Fits] at hf
  | e :: l, (x, v) :: t, h, i, hf => by
    simp only [Fits, List.map_cons, List.cons.injEq, Prod.mk.injEq] at hf
    obtain ⟨⟨hk, hv⟩, hf⟩ := hf
    have ih := findNow_fits l t h (i + 1) hf
    unfold Instr.findNow Prs.idx
    rw [hk]
    by_cases hx : h = x
    · subst hx
      simp [Instr.sameNow, hv]
    · have hx' : (h == x) = false := by rw [beq_eq_false_iff_ne]; exact hx
      simp [Instr.sameNow, hx', hx, ih]
theorem Fits.nil : Fits [] [] := rfl

section
variable {P : Program} {w : World} {t k e : TypeId} {m : Nat} {D : Prs}
theorem run_lookup_int (ht : P.underlying t = some (.map k e)) (hk : P.underlying k = some (.int .i64)) (h : MapAt w m D) (x : Int) (z : Value) (hz : (zeroValue e).run P w = .ok z w) :
    (Instr.lookup t (.map (some m)) (.int .i64 x) false).run P w = .ok ((D.look x).getD z) w := by
  obtain ⟨es, clock, hb, hf⟩ := h
  have h1 := findNow_fits es.toList D x 0 hf
  have h2 := Prs.idx_look D x 0
  have hc : (Instr.checkKey es.isEmpty 10000 k (.int .i64 x)).run P w = .ok () w := MapKept.run_checkKey (k := .int .i64 x) hk (by simp [MapKept.IsKey]) _ 9999
  unfold Instr.lookup
  cases hi : D.idx x 0 with
  | none =>
    rw [hi] at h1 h2
    simp at h2
    simp [run_underlying ht, MapKept.run_getObj_map hb, hc, MapKept.run_findKey hk h1, Result.andThen, ← h2, hz]
  | some p =>
    rw [hi] at h1 h2
    simp at h2
    simp [run_underlying ht, MapKept.run_getObj_map hb, hc, MapKept.run_findKey hk h1, Result.andThen, ← h2]

theorem fits_push {l : List MapEntry} {D : Prs} {x : Int} {v : Value} {c : Nat} (hf : Fits l D) (hi : D.look x = none) : Fits (l ++ [{ key := .int .i64 x, val := v, born := c }]) (D.put x v) := by
  have e : D.put x v = D ++ [(x, v)] := by
    clear hf
    induction D with
    | nil => rfl
    | cons a t ih =>
      obtain ⟨y, u⟩ := a
      unfold Prs.look at hi
      split at hi
      · cases hi
      · rename_i hx
        unfold Prs.put
        rw [if_neg hx, ih hi]
        rfl
  rw [e]
  unfold Fits at hf ⊢
  rw [List.map_append, List.map_append, hf]
  rfl
theorem fits_set : ∀ {l : List MapEntry} {D : Prs} {x : Int} {v u : Value} {i j : Nat}, Fits l D → D.idx x i = some (j, u) → ∃ p, j = i + p ∧ (∃ e, l[p]? = some e ∧ e.key = .int .i64 x) ∧ Fits (l.modify p fun e => { e with key := .int .i64 x, val := v }) (D.put x v)
  | [], [], _, _, _, _, _, _, h => by simp [Prs.idx] at h
  | [], _ :: _, _, _, _, _, _, hf, _ => by simp [Fits] at hf
  | _ :: _, [], _, _, _, _, _, hf, _ => by simp [Fits] at hf
  | e :: l, (y, t) :: D, x, v, u, i, j, hf, h => by
    simp only [Fits, List.map_cons, List.cons.injEq, Prod.mk.injEq] at hf
    obtain ⟨⟨hk, hv⟩, hf⟩ := hf
    unfold Prs.idx at h
    split at h
    · rename_i hx
      subst hx
      cases h
      refine ⟨0, rfl, ⟨e, rfl, hk⟩, ?_⟩
      unfold Prs.put
      rw [if_pos rfl]
      simp only [Fits, List.modify_zero_cons, List.map_cons, List.cons.injEq]
      exact ⟨trivial, hf⟩
    · rename_i hx
      obtain ⟨p, hp, ⟨e', he, hek⟩, hfit⟩ := fits_set (l := l) (D := D) hf h
      refine ⟨p + 1, by omega, ⟨e', he, hek⟩, ?_⟩
      unfold Prs.put
      rw [if_neg hx]
      simp only [Fits, List.modify_succ_cons, List.map_cons, List.cons.injEq, Prod.mk.injEq]
      exact ⟨⟨hk, hv⟩, hfit⟩
theorem run_mapUpdate_int (ht : P.underlying t = some (.map k e)) (hk : P.underlying k = some (.int .i64)) (h : MapAt w m D) (x : Int) (v : Value) :
    ∃ w', (Instr.mapUpdate t (.map (some m)) (.int .i64 x) v).run P w = .ok () w' ∧ MapAt w' m (D.put x v) ∧ w.grownBy w' (some m) ∧ w'.heap.size = w.heap.size := by
  obtain ⟨es, clock, hb, hf⟩ := h
  have h1 := findNow_fits es.toList D x 0 hf
  have h2 := Prs.idx_look D x 0
  have hc : (Instr.checkKey false 10000 k (.int .i64 x)).run P w = .ok () w := MapKept.run_checkKey (k := .int .i64 x) hk (by simp [MapKept.IsKey]) _ 9999
  have grown : ∀ o, w.grownBy { w with heap := w.heap.setIfInBounds m o } (some m) := fun o => ⟨rfl, rfl, rfl, by simp, fun j _ hj => by
    have : j ≠ m := fun e => hj (by rw [e])
    exact (MapKept.heap_set hb).2 j this⟩
  have hlt : m < w.heap.size := (Array.getElem?_eq_some_iff.1 hb).1
  cases hi : D.idx x 0 with
  | none =>
    rw [hi] at h1 h2
    simp at h2
    refine ⟨{ w with heap := w.heap.setIfInBounds m (.map (es.push { key := .int .i64 x, val := v, born := clock }) (clock + 1)) }, ?_, ⟨_, _, (MapKept.heap_set hb).1, ?_⟩, grown _, by simp⟩
    · simp [Instr.mapUpdate, run_underlying ht, MapKept.run_getObj_map hb, hc, MapKept.run_findKey hk h1, Result.andThen, MapKept.run_setObj_map _ hb]
    · rw [Array.toList_push]
      exact fits_push hf h2.symm
  | some p =>
    rw [hi] at h1 h2
    simp at h2
    obtain ⟨q, hq, ⟨e', he, hek⟩, hfit⟩ := fits_set (v := v) hf hi
    have hq' : p.1 = q := by omega
    refine ⟨{ w with heap := w.heap.setIfInBounds m (.map (es.modify q fun e => { e with key := .int .i64 x, val := v }) clock) }, ?_, ⟨_, _, (MapKept.heap_set hb).1, ?_⟩, grown _, by simp⟩
    · have hgk : es[q]? = some e' := by rw [← Array.getElem?_toList]; exact he
      have hkt : (Instr.keyThatStays ((es[q]?.map (·.key)).getD (.int .i64 x)) (.int .i64 x)).run P w = .ok (.int .i64 x) w := by
        rw [hgk]
        simp [Instr.keyThatStays, hek, Instr.sameBits]
      simp [Instr.mapUpdate, run_underlying ht, MapKept.run_getObj_map hb, hc, MapKept.run_findKey hk h1, Result.andThen, MapKept.run_setObj_map _ hb, hkt, hq']
    · rw [Array.toList_modify]
      exact hfit
end
end Go.Proofs.Ytcbabfndfikejaa
