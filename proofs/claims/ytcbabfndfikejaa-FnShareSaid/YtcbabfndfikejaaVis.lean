/- The record of what was visited (VisitRecord) and the cache of choices: how they lie in memory, the walks of their functions. Condition: the choices lie in memory. -/
import Derived.Test.YtcbabfndfikejaaJmA
import Derived.Test.YtcbabfndfikejaaZt0
namespace Go.Proofs.Ytcbabfndfikejaa
open Go.RowKit
set_option linter.unusedSimpArgs false

/-- The record lies at vs, its map at vm. -/
def VR (w : World) (vs vm : Nat) (D : PPrs) : Prop := (∃ len : Int, w.heap[vs]? = some (.cells #[.map (some vm), .int .i64 len] 118 (0, 0))) ∧ PMap w vm D
theorem PMap.chg {X : Nat → Prop} {w w' : World} {m : Nat} {D : PPrs} (h : PMap w m D) (hc : Chg X w w') (hX : ¬ X m) : PMap w' m D := by
  obtain ⟨es, c, h1, h2⟩ := h
  exact ⟨es, c, hc.heap h1 hX, h2⟩
theorem VR.chg {X : Nat → Prop} {w w' : World} {vs vm : Nat} {D : PPrs} (h : VR w vs vm D) (hc : Chg X w w') (h1 : ¬ X vs) (h2 : ¬ X vm) : VR w' vs vm D := by
  obtain ⟨⟨len, e1⟩, e2⟩ := h
  exact ⟨⟨len, hc.heap e1 h1⟩, e2.chg hc h2⟩
theorem VR.dr {w w' : World} {vs vm : Nat} {D : PPrs} (h : VR w vs vm D) (hd : Dr w w') : VR w' vs vm D := by obtain ⟨n, rfl⟩ := hd; exact h
theorem VR.below {w w' : World} {vs vm : Nat} {D : PPrs} (h : VR w vs vm D) (hb : Below w.heap.size w w') : VR w' vs vm D :=
  h.chg (Chg.of_below (X := fun _ => False) hb) (fun h => h) (fun h => h)
theorem VR.lt {w : World} {vs vm : Nat} {D : PPrs} (h : VR w vs vm D) : vs < w.heap.size ∧ vm < w.heap.size := by
  obtain ⟨⟨len, e1⟩, es, c, e2, _⟩ := h
  exact ⟨(Array.getElem?_eq_some_iff.1 e1).1, (Array.getElem?_eq_some_iff.1 e2).1⟩
def VNew (w : World) (e : Ending) (w' : World) : Prop := e = .returned (.pointer (some ⟨w.heap.size + 1, 0, none⟩)) ∧ VR w' (w.heap.size + 1) w.heap.size [] ∧ Below w.heap.size w w'
theorem newVisit_any (w : World) : Calls Try.prog 57 #[] w (VNew w) := by
  have hmm : ∀ w : World, (Instr.makeMap 116 none).run Try.prog w = .ok (.map (some w.heap.size)) (w.alloc (.map #[] 0)) := fun w => by
    simp [Instr.makeMap, run_underlying Try.underlying116]
  go_enter Try.func57, Try.ntmps57
  go_wp2
  go_ret
  refine ⟨rfl, ⟨⟨0, heap_new' (by simp)⟩, #[], 0, by rw [heap_old' (by simp)]; exact heap_new' rfl, rfl⟩, ?_⟩
  exact ((Below.refl _ w).alloc (Nat.le_refl _) _).alloc (by simp) _
/-- What is laid in the record are choices. -/
def VPtr (D : PPrs) : Prop := ∀ x ∈ D, ∃ q : Addr, x.2 = .pointer (some q)
theorem PPrs.look_mem : ∀ {D : PPrs} {a : Addr} {v : Value}, D.look a = some v → (a, v) ∈ D
  | [], _, _, h => by cases h
  | (x, u) :: t, a, v, h => by
    unfold PPrs.look at h
    by_cases e : a = x
    · rw [if_pos e] at h; cases h; subst e; exact List.mem_cons_self ..
    · rw [if_neg e] at h; exact List.mem_cons_of_mem _ (PPrs.look_mem h)
theorem PPrs.look_none : ∀ {D : PPrs} {a : Addr}, (∀ x ∈ D, x.1 ≠ a) → D.look a = none
  | [], _, _ => rfl
  | (x, u) :: t, a, h => by
    unfold PPrs.look
    rw [if_neg (fun e => h _ (List.mem_cons_self ..) e.symm)]
    exact PPrs.look_none (fun y hy => h y (List.mem_cons_of_mem _ hy))
theorem zero72 (w : World) : (zeroValue 72).run Try.prog w = .ok (.pointer none) w := by kernel_rfl
def VGet (v : Option Addr) (w : World) (e : Ending) (w' : World) : Prop := e = .returned (.tuple #[.pointer v, .bool v.isSome]) ∧ w = w'
theorem visitGet_any (w : World) (vs vm : Nat) (D : PPrs) (p : Addr) (hv : VR w vs vm D) (hk : ∀ x ∈ D, AtCtx w x.1) (hp : AtCtx w p) (hD : VPtr D) :
    Calls Try.prog 76 #[.pointer (some ⟨vs, 0, none⟩), .pointer (some p)] w (fun e w' => ∃ v : Option Addr, D.look p = v.map (fun q => Value.pointer (some q)) ∧ VGet v w e w') := by
  obtain ⟨⟨len, e1⟩, e2⟩ := hv
  have c0 : w.cell? ⟨vs, 0, none⟩ = some (.map (some vm)) := cell_of e1 0
  have hl := run_lookup_ptr1 (t := 116) Try.underlying116 e2 hk p hp _ (zero72 w)
  cases h : D.look p with
  | none =>
    rw [h] at hl
    simp only [Option.getD_none] at hl
    have hn : (binOp .neq 72 (.pointer none) (.pointer none)).run Try.prog w = .ok (.bool false) w := by simp [go_sem, Try.underlying72]
    clear e1 e2 hk hp
    refine Calls.mono ?_ (fun e w' (H : VGet none w e w') => ⟨none, rfl, H⟩)
    go_enter Try.func76, Try.ntmps76
    go_wp2
    go_ret2
    exact ⟨rfl, rfl⟩
  | some v =>
    obtain ⟨q, hq⟩ := hD _ (PPrs.look_mem h)
    simp only at hq
    subst hq
    rw [h] at hl
    simp only [Option.getD_some] at hl
    have hn : (binOp .neq 72 (.pointer (some q)) (.pointer none)).run Try.prog w = .ok (.bool true) w := by simp [go_sem, Try.underlying72]
    clear e1 e2 hk hp
    refine Calls.mono ?_ (fun e w' (H : VGet (some q) w e w') => ⟨some q, rfl, H⟩)
    go_enter Try.func76, Try.ntmps76
    go_wp2
    go_ret2
    exact ⟨rfl, rfl⟩
/-- What a store to the record leaves. -/
def VPut (vs vm : Nat) (D : PPrs) (w : World) (e : Ending) (w' : World) : Prop := (∃ v, e = .returned v) ∧ VR w' vs vm D ∧ Chg (fun j => j = vs ∨ j = vm) w w'
theorem visitPut_any (w : World) (vs vm : Nat) (D : PPrs) (p q : Addr) (hv : VR w vs vm D) (hk : ∀ x ∈ D, AtCtx w x.1) (hp : AtCtx w p) (hn : D.look p = none) :
    Calls Try.prog 78 #[.pointer (some ⟨vs, 0, none⟩), .pointer (some p), .pointer (some q)] w (VPut vs vm (D ++ [(p, .pointer (some q))]) w) := by
  obtain ⟨⟨len, e1⟩, e2⟩ := hv
  have c0 : w.cell? ⟨vs, 0, none⟩ = some (.map (some vm)) := cell_of e1 0
  have hne : vs ≠ vm := by
    rintro rfl
    obtain ⟨_, _, h, _⟩ := e2
    rw [e1] at h; cases h
  obtain ⟨w1, hr, hm1, hg1, hs1⟩ := run_mapUpdate_ptr (t := 116) Try.underlying116 e2 hk p hp hn (.pointer (some q))
  have hv1 : w1.heap[vs]? = some (.cells #[.map (some vm), .int .i64 len] 118 (0, 0)) := (hg1.block vs (Array.getElem?_eq_some_iff.1 e1).1 (fun e => hne (Option.some.inj e))).trans e1
  have c1 : w1.cell? ⟨vs, 1, none⟩ = some (.int .i64 len) := cell_of hv1 1
  have f1 : w1.frozen? ⟨vs, 1, none⟩ = false := by simp [World.frozen?, hv1]
  have hset : ∀ v, w1.grownBy (w1.setCell ⟨vs, 1, none⟩ v) (some vs) := fun v => ⟨rfl, rfl, rfl, by simp [World.setCell], fun j _ hj => Below.heap_setCell _ _ _ _ (fun e => hj (by rw [e]))⟩
  have HFIN := Lib.hid (show ∀ n : Int, VR (w1.setCell ⟨vs, 1, none⟩ (.int .i64 n)) vs vm (D ++ [(p, .pointer (some q))]) ∧ Chg (fun j => j = vs ∨ j = vm) w (w1.setCell ⟨vs, 1, none⟩ (.int .i64 n)) from fun n => by
    refine ⟨⟨⟨n, by rw [heap_setCell_same w1 vs 1 _ _ _ hv1]; rfl⟩, ?_⟩, ?_⟩
    · obtain ⟨es, c, h1, h2⟩ := hm1
      refine ⟨es, c, ((hset (.int .i64 n)).block vm (Array.getElem?_eq_some_iff.1 h1).1 (fun e => hne (Option.some.inj e).symm)).trans h1, h2⟩
    · have a : Chg (fun j => j = vs ∨ j = vm) w w1 := ⟨hg1.os, hg1.tape, hg1.output, hg1.size, fun j hj hx => hg1.block j hj (fun e => hx (.inr (Option.some.inj e)))⟩
      exact a.trans (Chg.of_grown (hset (.int .i64 n))) (fun j _ hj => .inl (Option.some.inj hj)))
  clear e1 e2 hk hp hm1 hg1 hs1 hv1 hset hne hn
  go_enter Try.func78, Try.ntmps78
  go_wp2
  go_ret2
  exact ⟨⟨_, rfl⟩, HFIN.out _⟩
end Go.Proofs.Ytcbabfndfikejaa
