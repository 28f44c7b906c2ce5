/- Maps with choices' addresses as keys, as lists of pairs: the laws of a look-up and of a first store. Condition: what the keys point to is known. -/
import Derived.Test.YtcbabfndfikejaaStore
import Derived.LaidEqlPtr
import Derived.MapKept
namespace Go.Proofs.Ytcbabfndfikejaa
open Go.RowKit
set_option linter.unusedSimpArgs false

/-- What an address points to is a choice's struct. -/
def AtCtx (w : World) (a : Addr) : Prop := ∃ c, w.heap[a.block]? = some (.cells c 97 (0, 0))
theorem Rep.atCtx {w : World} {X : Nat → Prop} {p : Addr} {k : Nat} {f : Tops} (h : Rep w X p k f) : AtCtx w p := by
  obtain ⟨g, c2, c3, c4, c5, rfl, _, hg⟩ := h.head
  exact ⟨_, hg⟩
theorem AtCtx.stay {w w' : World} {a : Addr} (h : AtCtx w a) (hs : Stay w w') : AtCtx w' a := by
  obtain ⟨c, hc⟩ := h
  exact ⟨c, hs.2 _ _ _ (.inl rfl) hc⟩
theorem equal72_same (w : World) (a : Addr) : (Op.equal 72 (.pointer (some a)) (.pointer (some a))).run Try.prog w = .ok true w := by
  have h2 := size97
  cases e2 : Try.prog.info? 97 with
  | none => rw [e2] at h2; cases h2
  | some j =>
    have h : ∀ d : Nat, (Op.equalIn (d + 1) 72 (.pointer (some a)) (.pointer (some a))).run Try.prog w = .ok true w := fun d => by
      simp [Op.equalIn, run_underlying Try.underlying72, sizeOf, typeInfo, e2, run_sameAddr_same]
    simp [Op.equal, Op.maxDepth, h 9999]
theorem equal72_other (w : World) {a b : Addr} (hne : a ≠ b) (ha : AtCtx w a) (hb : AtCtx w b) : (Op.equal 72 (.pointer (some a)) (.pointer (some b))).run Try.prog w = .ok false w := by
  have h2 := size97
  obtain ⟨ca, ha⟩ := ha
  obtain ⟨cb, hb⟩ := hb
  cases e2 : Try.prog.info? 97 with
  | none => rw [e2] at h2; cases h2
  | some j =>
    have hsz : j.size ≠ 0 := by rw [e2] at h2; simp at h2; omega
    have h : ∀ d : Nat, (Op.equalIn (d + 1) 72 (.pointer (some a)) (.pointer (some b))).run Try.prog w = .ok false w := fun d => by
      simp [Op.equalIn, run_underlying Try.underlying72, sizeOf, typeInfo, e2, hsz, run_sameAddr_other w hne ha hb]
    simp [Op.equal, Op.maxDepth, h 9999]

abbrev PPrs := List (Addr × Value)
def PPrs.look : PPrs → Addr → Option Value
  | [], _ => none
  | (x, v) :: t, a => if a = x then some v else PPrs.look t a
def PFits (l : List MapEntry) (D : PPrs) : Prop := l.map (fun e => (e.key, e.val)) = D.map fun x => (Value.pointer (some x.1), x.2)
/-- Block m is a map of these pairs. -/
def PMap (w : World) (m : Nat) (D : PPrs) : Prop := ∃ es clock, w.heap[m]? = some (.map es clock) ∧ PFits es.toList D
theorem findAsking_ptr (w : World) (a : Addr) (ha : AtCtx w a) : ∀ (l : List MapEntry) (D : PPrs) (i : Nat), PFits l D → (∀ x ∈ D, AtCtx w x.1) →
    ∃ r, (Instr.findAsking 72 (.pointer (some a)) l i).run Try.prog w = .ok r w ∧ r.map (·.2) = D.look a
  | [], [], _, _, _ => ⟨none, by simp [Instr.findAsking, Sem.run_pure], rfl⟩
  | [], _ :: _, _, hf, _ => by simp [PFits] at hf
  | _ :: _, [], _, hf, _ => by simp [PFits] at hf
  | e :: l, (x, v) :: t, i, hf, hk => by
    simp only [PFits, List.map_cons, List.cons.injEq, Prod.mk.injEq] at hf
    obtain ⟨⟨h1, h2⟩, hf⟩ := hf
    unfold Instr.findAsking PPrs.look
    rw [h1]
    by_cases hx : a = x
    · subst hx
      refine ⟨some (i, e.val), ?_, by simp [h2]⟩
      simp [equal72_same, Result.andThen, Sem.run_pure]
    · obtain ⟨r, hr, hr2⟩ := findAsking_ptr w a ha l t (i + 1) hf (fun y hy => hk y (List.mem_cons_of_mem _ hy))
      refine ⟨r, ?_, by rw [if_neg hx]; exact hr2⟩
      simp [equal72_other w hx ha (hk (x, v) (List.mem_cons_self ..)), Result.andThen, hr]
theorem findKey_ptr (w : World) (a : Addr) (ha : AtCtx w a) (l : List MapEntry) (D : PPrs) (hf : PFits l D) (hk : ∀ x ∈ D, AtCtx w x.1) :
    ∃ r, (Instr.findKey 72 (.pointer (some a)) l).run Try.prog w = .ok r w ∧ r.map (·.2) = D.look a := by
  obtain ⟨r, hr, hr2⟩ := findAsking_ptr w a ha l D 0 hf hk
  refine ⟨r, ?_, hr2⟩
  cases l with
  | nil =>
    simp only [Instr.findKey, run_underlying Try.underlying72, Sem.run_bind, Result.andThen, Instr.findNow, Sem.run_pure]
    simpa [Instr.findAsking, Sem.run_pure] using hr
  | cons e l =>
    simp [Instr.findKey, run_underlying Try.underlying72, Result.andThen, Instr.findNow, Instr.sameNow, hr]
theorem checkKey_ptr (w : World) (a : Addr) (b : Bool) : (Instr.checkKey b 10000 72 (.pointer (some a))).run Try.prog w = .ok () w := by
  unfold Instr.checkKey
  simp [run_underlying Try.underlying72, Result.andThen, Sem.run_pure]
section
variable {w : World} {t e : TypeId} {m : Nat} {D : PPrs}
theorem run_lookup_ptr2 (ht : Try.prog.underlying t = some (.map 72 e)) (h : PMap w m D) (hk : ∀ x ∈ D, AtCtx w x.1) (a : Addr) (ha : AtCtx w a) (z : Value) (hz : (zeroValue e).run Try.prog w = .ok z w) :
    (Instr.lookup t (.map (some m)) (.pointer (some a)) true).run Try.prog w = .ok (.tuple #[(D.look a).getD z, .bool (D.look a).isSome]) w := by
  obtain ⟨es, clock, hb, hf⟩ := h
  obtain ⟨r, hr, hr2⟩ := findKey_ptr w a ha es.toList D hf hk
  have hc := checkKey_ptr w a es.isEmpty
  unfold Instr.lookup
  cases r with
  | none =>
    simp at hr2
    simp [run_underlying ht, MapKept.run_getObj_map hb, hc, hr, Result.andThen, ← hr2, hz, Sem.run_pure]
  | some p =>
    simp at hr2
    simp [run_underlying ht, MapKept.run_getObj_map hb, hc, hr, Result.andThen, ← hr2, Sem.run_pure]
theorem run_lookup_ptr1 (ht : Try.prog.underlying t = some (.map 72 e)) (h : PMap w m D) (hk : ∀ x ∈ D, AtCtx w x.1) (a : Addr) (ha : AtCtx w a) (z : Value) (hz : (zeroValue e).run Try.prog w = .ok z w) :
    (Instr.lookup t (.map (some m)) (.pointer (some a)) false).run Try.prog w = .ok ((D.look a).getD z) w := by
  obtain ⟨es, clock, hb, hf⟩ := h
  obtain ⟨r, hr, hr2⟩ := findKey_ptr w a ha es.toList D hf hk
  have hc := checkKey_ptr w a es.isEmpty
  unfold Instr.lookup
  cases r with
  | none =>
    simp at hr2
    simp [run_underlying ht, MapKept.run_getObj_map hb, hc, hr, Result.andThen, ← hr2, hz, Sem.run_pure]
  | some p =>
    simp at hr2
    simp [run_underlying ht, MapKept.run_getObj_map hb, hc, hr, Result.andThen, ← hr2, Sem.run_pure]
theorem run_mapUpdate_ptr (ht : Try.prog.underlying t = some (.map 72 e)) (h : PMap w m D) (hk : ∀ x ∈ D, AtCtx w x.1) (a : Addr) (ha : AtCtx w a) (hn : D.look a = none) (v : Value) :
    ∃ w', (Instr.mapUpdate t (.map (some m)) (.pointer (some a)) v).run Try.prog w = .ok () w' ∧ PMap w' m (D ++ [(a, v)]) ∧ w.grownBy w' (some m) ∧ w'.heap.size = w.heap.size := by
  obtain ⟨es, clock, hb, hf⟩ := h
  obtain ⟨r, hr, hr2⟩ := findKey_ptr w a ha es.toList D hf hk
  rw [hn] at hr2
  have hc := checkKey_ptr w a false
  have grown : ∀ o, w.grownBy { w with heap := w.heap.setIfInBounds m o } (some m) := fun o => ⟨rfl, rfl, rfl, by simp, fun j _ hj => by
    have : j ≠ m := fun e => hj (by rw [e])
    exact (MapKept.heap_set hb).2 j this⟩
  cases r with
  | some p => simp at hr2
  | none =>
    refine ⟨{ w with heap := w.heap.setIfInBounds m (.map (es.push { key := .pointer (some a), val := v, born := clock }) (clock + 1)) }, ?_, ⟨_, _, (MapKept.heap_set hb).1, ?_⟩, grown _, by simp⟩
    · simp [Instr.mapUpdate, run_underlying ht, MapKept.run_getObj_map hb, hc, hr, Result.andThen, MapKept.run_setObj_map _ hb]
    · rw [Array.toList_push]
      unfold PFits at hf ⊢
      rw [List.map_append, List.map_append, hf]
      rfl
end
end Go.Proofs.Ytcbabfndfikejaa
