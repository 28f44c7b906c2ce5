/- A region that draws its order may be walked in one order: first what only reads, then the chain of what writes, if each reading yields the same in all worlds that meet S, and S holds behind each writing but the last. -/
import Derived.OrdersHeld
import Derived.Deep.RegionHeld3
namespace Go.Proofs.Ytcbabfndfikejaa
section
variable {P : Program} {ops : Array Oper} {Q : Exit → Act → World → Prop} {S : World → Prop}

/-- Does operation j wait for all others? -/
def closing (ops : Array Oper) (j : Nat) : Bool := match ops[j]? with
  | some o => (List.range ops.size).all fun k => k == j || o.after.any fun e => Region.binds .any e && e.on == k
  | none => false
theorem closing_spec {listed : Array Bool} {i j : Nat} (hc : closing ops j = true) (hj : j ∈ Region.ready .any ops listed) (hi : i ∈ Region.ready .any ops listed) (hne : j ≠ i) : False := by
  obtain ⟨_, oj, hoj, hall⟩ := mem_ready.1 hj
  obtain ⟨hun, oi, hoi, _⟩ := mem_ready.1 hi
  have hlt : i < ops.size := (Array.getElem?_eq_some_iff.1 hoi).1
  simp only [closing, hoj, List.all_eq_true, List.mem_range, Bool.or_eq_true, beq_iff_eq, Array.any_eq_true', Bool.and_eq_true] at hc
  rcases hc i hlt with h | ⟨e, he, hb, hon⟩
  · exact hne h.symm
  · have := hall e he hb
    rw [hon] at this
    rcases Nat.lt_or_ge i listed.size with h' | h'
    · simp [h'] at this hun; rw [hun] at this; cases this
    · simp [Array.getElem?_eq_none h'] at this

def wpAnyL (P : Program) (ops : Array Oper) (Q : Exit → Act → World → Prop) (S : World → Prop) : Nat → Array Bool → Act → World → Prop
  | 0, listed, a, w => Region.ready .any ops listed = [] ∧ Q .normal a w
  | fuel + 1, listed, a, w =>
    (Region.ready .any ops listed = [] → Q .normal a w) ∧
    ∀ i ∈ Region.ready .any ops listed, wpOp P ops Q i (fun a' w' => (closing ops i = true ∨ S w') ∧ wpAnyL P ops Q S fuel (listed.setIfInBounds i true) a' w') a w
theorem wpAny_of_L : ∀ (fuel : Nat) (listed : Array Bool) (a : Act) (w : World), wpAnyL P ops Q S fuel listed a w → wpAny P .any ops Q fuel listed a w
  | 0, _, _, _, h => h
  | fuel + 1, _, _, _, h => ⟨h.1, fun i hi => wpOp_mono (fun a' w' h' => wpAny_of_L fuel _ a' w' h'.2) (h.2 i hi)⟩

theorem wpAnyL_first {i : Nat} {oi : Oper} {v : Value} (hi : ops[i]? = some oi) (hsel : ∀ (j : Nat) (o : Oper) cs b, ops[j]? = some o → o.op ≠ .select cs b)
    (hQ : ∀ c a w, Q (.panic c) (a.put oi.dst v) w → Q (.panic c) a w) :
    ∀ (fuel : Nat) (listed : Array Bool) (a : Act) (w : World),
      (∀ j oj, ops[j]? = some oj → j ≠ i → listed.getD j true = false → (∀ e ∈ oj.after, Region.binds .any e = true → e.on ≠ i) → oi.apart ops oj = true) →
      i ∈ Region.ready .any ops listed → YieldsIf P ops S oi v a → S w →
      wpAnyL P ops Q S fuel (listed.setIfInBounds i true) (a.put oi.dst v) w → wpAnyL P ops Q S (fuel + 1) listed a w := by
  intro fuel
  induction fuel with
  | zero =>
    intro listed a w _ hr hy hS H
    refine ⟨fun h => (by rw [h] at hr; cases hr), fun j hj => ?_⟩
    by_cases hji : j = i
    · subst hji; exact hy.wpOp hi hS ⟨.inr hS, H⟩
    · have := ready_mono hj hji
      rw [H.1] at this
      cases this
  | succ fuel ih =>
    intro listed a w hfree hr hy hS H
    refine ⟨fun h => (by rw [h] at hr; cases hr), fun j hj => ?_⟩
    by_cases hji : j = i
    · subst hji; exact hy.wpOp hi hS ⟨.inr hS, H⟩
    · have h1 := H.2 j (ready_mono hj hji)
      obtain ⟨hjun, oj, hoj, hall⟩ := mem_ready.1 hj
      have hnot : ∀ e ∈ oj.after, Region.binds .any e = true → e.on ≠ i := fun e he hb heq => by
        have h1 := hall e he hb
        have h0 := (mem_ready.1 hr).1
        rw [heq] at h1
        rcases Nat.lt_or_ge i listed.size with h' | h'
        · simp [h'] at h0 h1; rw [h0] at h1; cases h1
        · simp [Array.getElem?_eq_none h'] at h1
      have h2 := wpOp_putIf hoj (hfree j oj hoj hji hjun hnot) (fun cs b => hsel i oi cs b hi) (fun cs b => hsel j oj cs b hoj) hQ hy h1
      have hfree' : ∀ k ok, ops[k]? = some ok → k ≠ i → (listed.setIfInBounds j true).getD k true = false →
          (∀ e ∈ ok.after, Region.binds .any e = true → e.on ≠ i) → oi.apart ops ok = true := fun k ok hk hki hun hno => by
        refine hfree k ok hk hki ?_ hno
        by_cases hjk : j = k
        · subst hjk; exact hjun
        · rw [getD_set_ne true hjk] at hun; exact hun
      refine wpOp_mono (fun a' w' h3 => ?_) h2
      have hS' : S w' := h3.2.1.resolve_left (fun hc => closing_spec hc hj hr hji)
      refine ⟨.inr hS', ih (listed.setIfInBounds j true) a' w' hfree' (ready_mono hr (Ne.symm hji)) h3.1 hS' ?_⟩
      rw [Array.setIfInBounds_comm _ _ hji]
      exact h3.2.2

/-- What only reads, one behind the other: each yields its value in every world that meets S. -/
def Takes (P : Program) (ops : Array Oper) (S : World → Prop) : List Nat → Act → Act → Prop
  | [], a, a' => a = a'
  | i :: r, a, a' => ∃ o v, ops[i]? = some o ∧ YieldsIf P ops S o v a ∧ Takes P ops S r (a.put o.dst v) a'
theorem Takes.nil {a : Act} : Takes P ops S [] a a := rfl
theorem Takes.cons {i : Nat} {r : List Nat} {o : Oper} {v : Value} {a a' : Act} (ho : ops[i]? = some o) (hw : Region.wanted o (yielded ops a.tmps) = true)
    (hv : ∀ w, S w → (execOp a.eval o).run P w = .ok (.value v) w) (h : Takes P ops S r (a.put o.dst v) a') : Takes P ops S (i :: r) a a' := ⟨o, v, ho, .inl ⟨hw, hv⟩, h⟩
theorem Takes.pass {i : Nat} {r : List Nat} {o : Oper} {a a' : Act} (ho : ops[i]? = some o) (hw : Region.wanted o (yielded ops a.tmps) = false)
    (h : Takes P ops S r (a.put o.dst undef) a') : Takes P ops S (i :: r) a a' := ⟨o, undef, ho, .inr ⟨hw, rfl⟩, h⟩

def okF (ops : Array Oper) : Array Bool → List Nat → Bool
  | _, [] => true
  | listed, i :: r => Region.free .any ops listed i && (Region.ready .any ops listed).contains i && okF ops (listed.setIfInBounds i true) r
def setAll (listed : Array Bool) : List Nat → Array Bool
  | [] => listed
  | i :: r => setAll (listed.setIfInBounds i true) r
theorem wpAnyL_takes (hs : Region.noSelect ops = true) (hQ : ∀ (d : Option Tmp) (v : Value) c a w, Q (.panic c) (a.put d v) w → Q (.panic c) a w) :
    ∀ (F : List Nat) (fuel : Nat) (listed : Array Bool) (a a' : Act) (w : World), okF ops listed F = true → Takes P ops S F a a' → S w → wpAnyL P ops Q S fuel (setAll listed F) a' w → wpAnyL P ops Q S (fuel + F.length) listed a w := by
  intro F
  induction F with
  | nil => intro fuel listed a a' w _ ht _ h; cases ht; exact h
  | cons i r ih =>
    intro fuel listed a a' w hok ht hS h
    obtain ⟨o, v, ho, hy, ht'⟩ := ht
    simp only [okF, Bool.and_eq_true] at hok
    have h1 := ih fuel (listed.setIfInBounds i true) (a.put o.dst v) a' w hok.2 ht' hS h
    exact wpAnyL_first ho (Region.noSelect_spec hs) (hQ _ _) _ listed a w (Region.free_spec ho hok.1.1) (by simpa using hok.1.2) hy hS h1

/-- What is forced, one behind the other. -/
def Chain (P : Program) (ops : Array Oper) (Q : Exit → Act → World → Prop) (S : World → Prop) : List Nat → Act → World → Prop
  | [], a, w => Q .normal a w
  | i :: r, a, w => wpOp P ops Q i (fun a' w' => (closing ops i = true ∨ S w') ∧ Chain P ops Q S r a' w') a w
def okC (ops : Array Oper) : Array Bool → List Nat → Bool
  | listed, [] => Region.ready .any ops listed == []
  | listed, i :: r => Region.ready .any ops listed == [i] && okC ops (listed.setIfInBounds i true) r
theorem wpAnyL_chain : ∀ (C : List Nat) (listed : Array Bool) (a : Act) (w : World), okC ops listed C = true → Chain P ops Q S C a w → wpAnyL P ops Q S C.length listed a w := by
  intro C
  induction C with
  | nil => intro listed a w hok h; exact ⟨by simpa [okC] using hok, h⟩
  | cons i r ih =>
    intro listed a w hok h
    simp only [okC, Bool.and_eq_true, beq_iff_eq] at hok
    refine ⟨fun h0 => (by rw [hok.1] at h0; cases h0), fun j hj => ?_⟩
    rw [hok.1] at hj
    have : j = i := by simpa using hj
    subst this
    exact wpOp_mono (fun a' w' h' => ⟨h'.1, ih _ a' w' hok.2 h'.2⟩) h

def okOrder (ops : Array Oper) (F C : List Nat) : Bool :=
  Region.noSelect ops && okF ops (Array.replicate ops.size false) F && okC ops (setAll (Array.replicate ops.size false) F) C && (C.length + F.length == ops.size)
/-- The same, what follows behind it. -/
def TakesThen (P : Program) (ops : Array Oper) (S : World → Prop) : List Nat → Act → (Act → Prop) → Prop
  | [], a, K => K a
  | i :: r, a, K => ∃ o v, ops[i]? = some o ∧ YieldsIf P ops S o v a ∧ TakesThen P ops S r (a.put o.dst v) K
theorem TakesThen.nil {a : Act} {K : Act → Prop} (h : K a) : TakesThen P ops S [] a K := h
theorem TakesThen.cons {i : Nat} {r : List Nat} {o : Oper} {v : Value} {a : Act} {K : Act → Prop} (ho : ops[i]? = some o) (hw : Region.wanted o (yielded ops a.tmps) = true)
    (hv : ∀ w, S w → (execOp a.eval o).run P w = .ok (.value v) w) (h : TakesThen P ops S r (a.put o.dst v) K) : TakesThen P ops S (i :: r) a K := ⟨o, v, ho, .inl ⟨hw, hv⟩, h⟩
theorem TakesThen.pass {i : Nat} {r : List Nat} {o : Oper} {a : Act} {K : Act → Prop} (ho : ops[i]? = some o) (hw : Region.wanted o (yielded ops a.tmps) = false)
    (h : TakesThen P ops S r (a.put o.dst undef) K) : TakesThen P ops S (i :: r) a K := ⟨o, undef, ho, .inr ⟨hw, rfl⟩, h⟩
theorem TakesThen.spec : ∀ (F : List Nat) (a : Act) (K : Act → Prop), TakesThen P ops S F a K → ∃ a', Takes P ops S F a a' ∧ K a'
  | [], a, _, h => ⟨a, rfl, h⟩
  | _ :: r, a, K, ⟨o, v, ho, hy, h⟩ => by
    obtain ⟨a', h1, h2⟩ := TakesThen.spec r _ K h
    exact ⟨a', ⟨o, v, ho, hy, h1⟩, h2⟩

theorem wp_region_order {id : Nat} {a : Act} {w : World} (S : World → Prop) (F C : List Nat) (hm : P.follows .mixedOrders = true) (hok : okOrder ops F C = true) (hS : S w.drew)
    (h : TakesThen P ops S F a fun a' => Chain P ops (NoPanic Q) S C a' w.drew) : (Code.region id ops true).wp P Q a w := by
  simp only [okOrder, Bool.and_eq_true, beq_iff_eq] at hok
  obtain ⟨a', ht, h⟩ := TakesThen.spec _ _ _ h
  refine wp_region_noPanic (wp_region_any hm (wpAny_of_L (S := S) _ _ _ _ ?_))
  have key := wpAnyL_takes (P := P) (Q := NoPanic Q) hok.1.1.1 (fun _ _ _ _ _ h => h) F C.length _ _ _ w.drew hok.1.1.2 ht hS (wpAnyL_chain C _ _ _ hok.1.2 h)
  rw [hok.2] at key
  exact key

theorem Chain.step {i : Nat} {r : List Nat} {o : Oper} {a : Act} {w : World} (ho : ops[i]? = some o) (hg : o.guard = none)
    (h : ∀ K : Act → World → Prop, (∀ a w, S w → Chain P ops Q S r a w → K a w) → o.wp P a w K Q) : Chain P ops Q S (i :: r) a w := by
  show wpOp P ops Q i _ a w
  unfold wpOp
  simp only [ho, Region.wanted, hg, if_true]
  exact .inl (h _ (fun a w h1 h2 => ⟨.inr h1, h2⟩))
theorem Chain.last {i : Nat} {o : Oper} {a : Act} {w : World} (hc : closing ops i = true) (ho : ops[i]? = some o) (hg : o.guard = none)
    (h : ∀ K : Act → World → Prop, (∀ a w, Q .normal a w → K a w) → o.wp P a w K Q) : Chain P ops Q S [i] a w := by
  show wpOp P ops Q i _ a w
  unfold wpOp
  simp only [ho, Region.wanted, hg, if_true]
  exact .inl (h _ (fun a w h1 => ⟨.inl hc, h1⟩))
theorem Chain.nil {a : Act} {w : World} (h : Q .normal a w) : Chain P ops (NoPanic Q) S [] a w := h
end
end Go.Proofs.Ytcbabfndfikejaa
