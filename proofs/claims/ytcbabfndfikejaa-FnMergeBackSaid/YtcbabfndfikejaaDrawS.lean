/- A region that draws its order, walked along a schedule: what only reads may be taken first, what is forced is stepped, and where two may come next both ways are walked. -/
import Derived.OrdersHeld
import Derived.Deep.RegionHeld3
namespace Go.Proofs.Ytcbabfndfikejaa
/-- take i: i only reads; step i: i is forced; fork i j: either may come next. -/
inductive Sch where
  | done
  | take (i : Nat) (r : Sch)
  | step (i : Nat) (r : Sch)
  | fork (i j : Nat) (r s : Sch)
namespace Sch
def len : Sch → Nat
  | .done => 0
  | .take _ r => r.len + 1
  | .step _ r => r.len + 1
  | .fork _ _ r _ => r.len + 1
def takes : Sch → List Nat
  | .done => []
  | .take i r => i :: r.takes
  | .step _ r => r.takes
  | .fork _ _ r s => r.takes ++ s.takes
end Sch
section
variable {P : Program} {ops : Array Oper} {Q : Exit → Act → World → Prop} {S : World → Prop} {F0 : List Nat}

/-- Does operation j wait for all of F? -/
def waits (F : List Nat) (ops : Array Oper) (j : Nat) : Bool := match ops[j]? with
  | some o => F.all fun k => k == j || o.after.any fun e => Region.binds .any e && e.on == k
  | none => false
theorem waits_spec {F : List Nat} {listed : Array Bool} {i j : Nat} (hF : i ∈ F) (hc : waits F ops j = true) (hj : j ∈ Region.ready .any ops listed) (hi : i ∈ Region.ready .any ops listed) (hne : j ≠ i) : False := by
  obtain ⟨_, oj, hoj, hall⟩ := mem_ready.1 hj
  obtain ⟨hun, _⟩ := mem_ready.1 hi
  simp only [waits, hoj, List.all_eq_true, Bool.or_eq_true, beq_iff_eq, Array.any_eq_true', Bool.and_eq_true] at hc
  rcases hc i hF with h | ⟨e, he, hb, hon⟩
  · exact hne h.symm
  · have := hall e he hb
    rw [hon] at this
    rcases Nat.lt_or_ge i listed.size with h' | h'
    · simp [h'] at this hun; rw [hun] at this; cases this
    · simp [Array.getElem?_eq_none h'] at this

def wpAnyS (P : Program) (ops : Array Oper) (Q : Exit → Act → World → Prop) (S : World → Prop) (F0 : List Nat) : Nat → Array Bool → Act → World → Prop
  | 0, listed, a, w => Region.ready .any ops listed = [] ∧ Q .normal a w
  | fuel + 1, listed, a, w =>
    (Region.ready .any ops listed = [] → Q .normal a w) ∧
    ∀ i ∈ Region.ready .any ops listed, wpOp P ops Q i (fun a' w' => (waits F0 ops i = true ∨ S w') ∧ wpAnyS P ops Q S F0 fuel (listed.setIfInBounds i true) a' w') a w
theorem wpAny_of_S : ∀ (fuel : Nat) (listed : Array Bool) (a : Act) (w : World), wpAnyS P ops Q S F0 fuel listed a w → wpAny P .any ops Q fuel listed a w
  | 0, _, _, _, h => h
  | fuel + 1, _, _, _, h => ⟨h.1, fun i hi => wpOp_mono (fun a' w' h' => wpAny_of_S fuel _ a' w' h'.2) (h.2 i hi)⟩
theorem wpAnyS_first {i : Nat} {oi : Oper} {v : Value} (hiF : i ∈ F0) (hi : ops[i]? = some oi) (hsel : ∀ (j : Nat) (o : Oper) cs b, ops[j]? = some o → o.op ≠ .select cs b)
    (hQ : ∀ c a w, Q (.panic c) (a.put oi.dst v) w → Q (.panic c) a w) :
    ∀ (fuel : Nat) (listed : Array Bool) (a : Act) (w : World),
      (∀ j oj, ops[j]? = some oj → j ≠ i → listed.getD j true = false → (∀ e ∈ oj.after, Region.binds .any e = true → e.on ≠ i) → oi.apart ops oj = true) →
      i ∈ Region.ready .any ops listed → YieldsIf P ops S oi v a → S w →
      wpAnyS P ops Q S F0 fuel (listed.setIfInBounds i true) (a.put oi.dst v) w → wpAnyS P ops Q S F0 (fuel + 1) listed a w := by
  intro fuel
  induction fuel with
  | zero =>
    intro listed a w _ hr hy hS H
    refine ⟨fun h => (by rw [h] at hr; cases hr), fun j hj => ?_⟩
    by_cases hji : j = i
    · subst hji; exact hy.wpOp hi hS ⟨.inr hS, H⟩
    · have := ready_mono hj hji
      rw [H.1] at this
      cases this
  | succ fuel ih =>
    intro listed a w hfree hr hy hS H
    refine ⟨fun h => (by rw [h] at hr; cases hr), fun j hj => ?_⟩
    by_cases hji : j = i
    · subst hji; exact hy.wpOp hi hS ⟨.inr hS, H⟩
    · have h1 := H.2 j (ready_mono hj hji)
      obtain ⟨hjun, oj, hoj, hall⟩ := mem_ready.1 hj
      have hnot : ∀ e ∈ oj.after, Region.binds .any e = true → e.on ≠ i := fun e he hb heq => by
        have h1 := hall e he hb
        have h0 := (mem_ready.1 hr).1
        rw [heq] at h1
        rcases Nat.lt_or_ge i listed.size with h' | h'
        · simp [h'] at h0 h1; rw [h0] at h1; cases h1
        · simp [Array.getElem?_eq_none h'] at h1
      have h2 := wpOp_putIf hoj (hfree j oj hoj hji hjun hnot) (fun cs b => hsel i oi cs b hi) (fun cs b => hsel j oj cs b hoj) hQ hy h1
      have hfree' : ∀ k ok, ops[k]? = some ok → k ≠ i → (listed.setIfInBounds j true).getD k true = false →
          (∀ e ∈ ok.after, Region.binds .any e = true → e.on ≠ i) → oi.apart ops ok = true := fun k ok hk hki hun hno => by
        refine hfree k ok hk hki ?_ hno
        by_cases hjk : j = k
        · subst hjk; exact hjun
        · rw [getD_set_ne true hjk] at hun; exact hun
      refine wpOp_mono (fun a' w' h3 => ?_) h2
      have hS' : S w' := h3.2.1.resolve_left (fun hc => waits_spec hiF hc hj hr hji)
      refine ⟨.inr hS', ih (listed.setIfInBounds j true) a' w' hfree' (ready_mono hr (Ne.symm hji)) h3.1 hS' ?_⟩
      rw [Array.setIfInBounds_comm _ _ hji]
      exact h3.2.2

def Along (P : Program) (ops : Array Oper) (Q : Exit → Act → World → Prop) (S : World → Prop) (F0 : List Nat) : Sch → Act → World → Prop
  | .done, a, w => Q .normal a w
  | .take i r, a, w => ∃ o v, ops[i]? = some o ∧ YieldsIf P ops S o v a ∧ Along P ops Q S F0 r (a.put o.dst v) w
  | .step i r, a, w => wpOp P ops Q i (fun a' w' => ((r.takes = [] ∧ waits F0 ops i = true) ∨ S w') ∧ Along P ops Q S F0 r a' w') a w
  | .fork i j r s, a, w => wpOp P ops Q i (fun a' w' => ((r.takes = [] ∧ waits F0 ops i = true) ∨ S w') ∧ Along P ops Q S F0 r a' w') a w ∧ wpOp P ops Q j (fun a' w' => ((s.takes = [] ∧ waits F0 ops j = true) ∨ S w') ∧ Along P ops Q S F0 s a' w') a w
def okS (ops : Array Oper) (F0 : List Nat) : Array Bool → Sch → Bool
  | listed, .done => Region.ready .any ops listed == []
  | listed, .take i r => F0.contains i && Region.free .any ops listed i && (Region.ready .any ops listed).contains i && okS ops F0 (listed.setIfInBounds i true) r
  | listed, .step i r => Region.ready .any ops listed == [i] && okS ops F0 (listed.setIfInBounds i true) r
  | listed, .fork i j r s => Region.ready .any ops listed == [i, j] && r.len == s.len && okS ops F0 (listed.setIfInBounds i true) r && okS ops F0 (listed.setIfInBounds j true) s
theorem wpAnyS_along (hs : Region.noSelect ops = true) (hQ : ∀ (d : Option Tmp) (v : Value) c a w, Q (.panic c) (a.put d v) w → Q (.panic c) a w) :
    ∀ (M : Sch) (listed : Array Bool) (a : Act) (w : World), okS ops F0 listed M = true → (M.takes = [] ∨ S w) → Along P ops Q S F0 M a w → wpAnyS P ops Q S F0 M.len listed a w := by
  intro M
  induction M with
  | done => intro listed a w hok _ h; exact ⟨by simpa [okS] using hok, h⟩
  | take i r ih =>
    intro listed a w hok hS h
    have hS' : S w := hS.resolve_left (by simp [Sch.takes])
    obtain ⟨o, v, ho, hy, h'⟩ := h
    simp only [okS, Bool.and_eq_true] at hok
    have h1 := ih (listed.setIfInBounds i true) (a.put o.dst v) w hok.2 (.inr hS') h'
    exact wpAnyS_first (by simpa using hok.1.1.1) ho (Region.noSelect_spec hs) (hQ _ _) _ listed a w (Region.free_spec ho hok.1.1.2) (by simpa using hok.1.2) hy hS' h1
  | step i r ih =>
    intro listed a w hok hS h
    simp only [okS, Bool.and_eq_true, beq_iff_eq] at hok
    refine ⟨fun h0 => (by rw [hok.1] at h0; cases h0), fun j hj => ?_⟩
    rw [hok.1] at hj
    have : j = i := by simpa using hj
    subst this
    exact wpOp_mono (fun a' w' h' => ⟨h'.1.imp And.right id, ih _ a' w' hok.2 (h'.1.imp And.left id) h'.2⟩) h
  | fork i j r s ihr ihs =>
    intro listed a w hok hS h
    simp only [okS, Bool.and_eq_true, beq_iff_eq] at hok
    obtain ⟨⟨⟨h1, h2⟩, h5⟩, h6⟩ := hok
    refine ⟨fun h0 => (by rw [h1] at h0; cases h0), fun x hx => ?_⟩
    rw [h1] at hx
    have hx' : x = i ∨ x = j := by simpa using hx
    rcases hx' with rfl | rfl
    · exact wpOp_mono (fun a' w' h' => ⟨h'.1.imp And.right id, ihr _ a' w' h5 (h'.1.imp And.left id) h'.2⟩) h.1
    · refine wpOp_mono (fun a' w' h' => ⟨h'.1.imp And.right id, ?_⟩) h.2
      have := ihs _ a' w' h6 (h'.1.imp And.left id) h'.2
      rwa [← h2] at this
def okSch (ops : Array Oper) (M : Sch) : Bool := Region.noSelect ops && okS ops M.takes (Array.replicate ops.size false) M && (M.len == ops.size)
theorem wp_region_sch {id : Nat} {a : Act} {w : World} (S : World → Prop) (M : Sch) (hm : P.follows .mixedOrders = true) (hok : okSch ops M = true) (hS : S w.drew)
    (h : Along P ops (NoPanic Q) S M.takes M a w.drew) : (Code.region id ops true).wp P Q a w := by
  simp only [okSch, Bool.and_eq_true, beq_iff_eq] at hok
  refine wp_region_noPanic (wp_region_any hm (wpAny_of_S (S := S) (F0 := M.takes) _ _ _ _ ?_))
  have key := wpAnyS_along (P := P) (S := S) (F0 := M.takes) (Q := NoPanic Q) hok.1.1 (fun _ _ _ _ _ h => h) M _ a w.drew hok.1.2 (.inr hS) h
  rw [hok.2] at key
  exact key

theorem Along.take {i : Nat} {r : Sch} {o : Oper} {v : Value} {a : Act} {w : World} (ho : ops[i]? = some o) (hw : Region.wanted o (yielded ops a.tmps) = true)
    (hv : ∀ w, S w → (execOp a.eval o).run P w = .ok (.value v) w) (h : Along P ops Q S F0 r (a.put o.dst v) w) : Along P ops Q S F0 (.take i r) a w := ⟨o, v, ho, .inl ⟨hw, hv⟩, h⟩
theorem Along.pass {i : Nat} {r : Sch} {o : Oper} {a : Act} {w : World} (ho : ops[i]? = some o) (hw : Region.wanted o (yielded ops a.tmps) = false)
    (h : Along P ops Q S F0 r (a.put o.dst undef) w) : Along P ops Q S F0 (.take i r) a w := ⟨o, undef, ho, .inr ⟨hw, rfl⟩, h⟩
theorem Along.step {i : Nat} {r : Sch} {o : Oper} {a : Act} {w : World} (ho : ops[i]? = some o) (hw : Region.wanted o (yielded ops a.tmps) = true)
    (h : ∀ K : Act → World → Prop, (∀ a w, S w → Along P ops Q S F0 r a w → K a w) → o.wp P a w K Q) : Along P ops Q S F0 (.step i r) a w := by
  show wpOp P ops Q i _ a w
  unfold wpOp
  simp only [ho, hw, if_true]
  exact .inl (h _ (fun a w h1 h2 => ⟨.inr h1, h2⟩))
theorem Along.last {i : Nat} {r : Sch} {o : Oper} {a : Act} {w : World} (hc : waits F0 ops i = true) (hr : r.takes = []) (ho : ops[i]? = some o) (hw : Region.wanted o (yielded ops a.tmps) = true)
    (h : ∀ K : Act → World → Prop, (∀ a w, Along P ops Q S F0 r a w → K a w) → o.wp P a w K Q) : Along P ops Q S F0 (.step i r) a w := by
  show wpOp P ops Q i _ a w
  unfold wpOp
  simp only [ho, hw, if_true]
  exact .inl (h _ (fun a w h1 => ⟨.inl ⟨hr, hc⟩, h1⟩))
theorem Along.skip {i : Nat} {r : Sch} {o : Oper} {a : Act} {w : World} (ho : ops[i]? = some o) (hw : Region.wanted o (yielded ops a.tmps) = false) (hS : S w)
    (h : Along P ops Q S F0 r (a.put o.dst undef) w) : Along P ops Q S F0 (.step i r) a w := by
  show wpOp P ops Q i _ a w
  unfold wpOp
  simp only [ho, hw]
  exact ⟨.inr hS, h⟩
theorem Along.fork {i j : Nat} {r s : Sch} {a : Act} {w : World} (h1 : Along P ops Q S F0 (.step i r) a w) (h2 : Along P ops Q S F0 (.step j s) a w) : Along P ops Q S F0 (.fork i j r s) a w := ⟨h1, h2⟩
theorem Along.done {a : Act} {w : World} (h : Q .normal a w) : Along P ops (NoPanic Q) S F0 .done a w := h
end
end Go.Proofs.Ytcbabfndfikejaa
