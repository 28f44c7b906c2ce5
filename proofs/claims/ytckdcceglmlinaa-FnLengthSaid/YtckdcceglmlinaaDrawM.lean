/- A region that draws its order, walked in one order in which what only reads and what is forced stand mixed. -/
import Derived.Test.YtckdcceglmlinaaDraw
namespace Go.Proofs.Ytckdcceglmlinaa
section
variable {P : Program} {ops : Array Oper} {Q : Exit → Act → World → Prop} {S : World → Prop} {F0 : List Nat}

/-- (true, i): i only reads; (false, i): i is forced. -/
def Mixed (P : Program) (ops : Array Oper) (Q : Exit → Act → World → Prop) (S : World → Prop) : List (Bool × Nat) → Act → World → Prop
  | [], a, w => Q .normal a w
  | (true, i) :: r, a, w => ∃ o v, ops[i]? = some o ∧ YieldsIf P ops S o v a ∧ Mixed P ops Q S r (a.put o.dst v) w
  | (false, i) :: r, a, w => wpOp P ops Q i (fun a' w' => (r.any (·.1) = false ∨ S w') ∧ Mixed P ops Q S r a' w') a w
def okM (ops : Array Oper) (F0 : List Nat) : Array Bool → List (Bool × Nat) → Bool
  | listed, [] => Region.ready .any ops listed == []
  | listed, (true, i) :: r => F0.contains i && Region.free .any ops listed i && (Region.ready .any ops listed).contains i && okM ops F0 (listed.setIfInBounds i true) r
  | listed, (false, i) :: r => Region.ready .any ops listed == [i] && (r.any (·.1) || closing F0 ops i) && okM ops F0 (listed.setIfInBounds i true) r
theorem wpAnyL_mixed (hs : Region.noSelect ops = true) (hQ : ∀ (d : Option Tmp) (v : Value) c a w, Q (.panic c) (a.put d v) w → Q (.panic c) a w) :
    ∀ (M : List (Bool × Nat)) (listed : Array Bool) (a : Act) (w : World), okM ops F0 listed M = true → (M.any (·.1) = false ∨ S w) → Mixed P ops Q S M a w → wpAnyL P ops Q S F0 M.length listed a w := by
  intro M
  induction M with
  | nil => intro listed a w hok _ h; exact ⟨by simpa [okM] using hok, h⟩
  | cons x r ih =>
    intro listed a w hok hS h
    obtain ⟨t, i⟩ := x
    cases t
    · simp only [okM, Bool.and_eq_true, beq_iff_eq, Bool.or_eq_true] at hok
      refine ⟨fun h0 => (by rw [hok.1.1] at h0; cases h0), fun j hj => ?_⟩
      rw [hok.1.1] at hj
      have : j = i := by simpa using hj
      subst this
      refine wpOp_mono (fun a' w' h' => ⟨?_, ih _ a' w' hok.2 h'.1 h'.2⟩) h
      rcases h'.1 with h1 | h1
      · rcases hok.1.2 with h2 | h2
        · rw [h1] at h2; cases h2
        · exact .inl h2
      · exact .inr h1
    · have hS' : S w := hS.resolve_left (by simp)
      obtain ⟨o, v, ho, hy, h'⟩ := h
      simp only [okM, Bool.and_eq_true] at hok
      have h1 := ih (listed.setIfInBounds i true) (a.put o.dst v) w hok.2 (.inr hS') h'
      exact wpAnyL_first (by simpa using hok.1.1.1) ho (Region.noSelect_spec hs) (hQ _ _) _ listed a w (Region.free_spec ho hok.1.1.2) (by simpa using hok.1.2) hy hS' h1
def takesOf (M : List (Bool × Nat)) : List Nat := (M.filter (·.1)).map (·.2)
def okMixed (ops : Array Oper) (M : List (Bool × Nat)) : Bool := Region.noSelect ops && okM ops (takesOf M) (Array.replicate ops.size false) M && (M.length == ops.size)
theorem wp_region_mixed {id : Nat} {a : Act} {w : World} (S : World → Prop) (M : List (Bool × Nat)) (hm : P.follows .mixedOrders = true) (hok : okMixed ops M = true) (hS : S w.drew)
    (h : Mixed P ops (NoPanic Q) S M a w.drew) : (Code.region id ops true).wp P Q a w := by
  simp only [okMixed, Bool.and_eq_true, beq_iff_eq] at hok
  refine wp_region_noPanic (wp_region_any hm (wpAny_of_L (S := S) (F0 := takesOf M) _ _ _ _ ?_))
  have key := wpAnyL_mixed (P := P) (S := S) (F0 := takesOf M) (Q := NoPanic Q) hok.1.1 (fun _ _ _ _ _ h => h) M _ a w.drew hok.1.2 (.inr hS) h
  rw [hok.2] at key
  exact key

theorem Mixed.take {i : Nat} {r : List (Bool × Nat)} {o : Oper} {v : Value} {a : Act} {w : World} (ho : ops[i]? = some o) (hw : Region.wanted o (yielded ops a.tmps) = true)
    (hv : ∀ w, S w → (execOp a.eval o).run P w = .ok (.value v) w) (h : Mixed P ops Q S r (a.put o.dst v) w) : Mixed P ops Q S ((true, i) :: r) a w := ⟨o, v, ho, .inl ⟨hw, hv⟩, h⟩
theorem Mixed.pass {i : Nat} {r : List (Bool × Nat)} {o : Oper} {a : Act} {w : World} (ho : ops[i]? = some o) (hw : Region.wanted o (yielded ops a.tmps) = false)
    (h : Mixed P ops Q S r (a.put o.dst undef) w) : Mixed P ops Q S ((true, i) :: r) a w := ⟨o, undef, ho, .inr ⟨hw, rfl⟩, h⟩
theorem Mixed.step {i : Nat} {r : List (Bool × Nat)} {o : Oper} {a : Act} {w : World} (ho : ops[i]? = some o) (hw : Region.wanted o (yielded ops a.tmps) = true)
    (h : ∀ K : Act → World → Prop, (∀ a w, S w → Mixed P ops Q S r a w → K a w) → o.wp P a w K Q) : Mixed P ops Q S ((false, i) :: r) a w := by
  show wpOp P ops Q i _ a w
  unfold wpOp
  simp only [ho, hw, if_true]
  exact .inl (h _ (fun a w h1 h2 => ⟨.inr h1, h2⟩))
theorem Mixed.last {i : Nat} {r : List (Bool × Nat)} {o : Oper} {a : Act} {w : World} (hr : r.any (·.1) = false) (ho : ops[i]? = some o) (hw : Region.wanted o (yielded ops a.tmps) = true)
    (h : ∀ K : Act → World → Prop, (∀ a w, Mixed P ops Q S r a w → K a w) → o.wp P a w K Q) : Mixed P ops Q S ((false, i) :: r) a w := by
  show wpOp P ops Q i _ a w
  unfold wpOp
  simp only [ho, hw, if_true]
  exact .inl (h _ (fun a w h1 => ⟨.inl hr, h1⟩))
theorem Mixed.skip {i : Nat} {r : List (Bool × Nat)} {o : Oper} {a : Act} {w : World} (ho : ops[i]? = some o) (hw : Region.wanted o (yielded ops a.tmps) = false) (hS : S w)
    (h : Mixed P ops Q S r (a.put o.dst undef) w) : Mixed P ops Q S ((false, i) :: r) a w := by
  show wpOp P ops Q i _ a w
  unfold wpOp
  simp only [ho, hw]
  exact ⟨.inr hS, h⟩
theorem Mixed.nil {a : Act} {w : World} (h : Q .normal a w) : Mixed P ops (NoPanic Q) S [] a w := h
end
end Go.Proofs.Ytckdcceglmlinaa
