/- A region that draws its order, walked along a schedule, as in the text DrawS; but the last step may wait for what is taken through others. -/
import Derived.Test.YtcbabfndfikejaaDrawS
namespace Go.Proofs.Ytcbabfndfikejaa
section
variable {P : Program} {ops : Array Oper} {Q : Exit → Act → World → Prop} {S : World → Prop} {F0 : List Nat}

/-- Does operation j wait for k, itself or through others? -/
def before (ops : Array Oper) (k : Nat) : Nat → Nat → Bool
  | 0, _ => false
  | n + 1, j => match ops[j]? with
    | some o => o.after.any fun e => Region.binds .any e && (e.on == k || before ops k n e.on)
    | none => false
def waitsT (F : List Nat) (ops : Array Oper) (j : Nat) : Bool := F.all fun k => k == j || before ops k 6 j
/-- What is listed has all that it waits for listed. -/
def Down (ops : Array Oper) (listed : Array Bool) : Prop := ∀ j oj, ops[j]? = some oj → listed.getD j false = true → ∀ e ∈ oj.after, Region.binds .any e = true → listed.getD e.on false = true
theorem Down.set {listed : Array Bool} {j : Nat} (h : Down ops listed) (hj : j ∈ Region.ready .any ops listed) : Down ops (listed.setIfInBounds j true) := by
  obtain ⟨hun, oj, hoj, hall⟩ := mem_ready.1 hj
  have keep : ∀ x, listed.getD x false = true → (listed.setIfInBounds j true).getD x false = true := fun x hx => by
    by_cases e : j = x
    · subst e
      rcases Nat.lt_or_ge j listed.size with h' | h'
      · simp [h']
      · simp [Array.getElem?_eq_none h'] at hx
    · rw [getD_set_ne false e]; exact hx
  intro x ox hox hx e he hb
  by_cases hjx : j = x
  · subst hjx
    rw [hoj] at hox
    cases hox
    exact keep _ (hall e he hb)
  · rw [getD_set_ne false hjx] at hx
    exact keep _ (h x ox hox hx e he hb)
theorem Down.start (n : Nat) : Down ops (Array.replicate n false) := fun j oj _ hl => by
  rcases Nat.lt_or_ge j n with h | h
  · simp [Array.getD, h] at hl
  · simp [Array.getD] at hl
theorem before_listed {listed : Array Bool} (hd : Down ops listed) {k : Nat} : ∀ (n j : Nat), before ops k n j = true → listed.getD j false = true → listed.getD k false = true
  | 0, _, h, _ => by simp [before] at h
  | n + 1, j, h, hl => by
    unfold before at h
    cases ho : ops[j]? with
    | none => rw [ho] at h; cases h
    | some o =>
      rw [ho] at h
      simp only [Array.any_eq_true', Bool.and_eq_true, Bool.or_eq_true, beq_iff_eq] at h
      obtain ⟨e, he, hb, h⟩ := h
      have h1 := hd j o ho hl e he hb
      rcases h with rfl | h
      · exact h1
      · exact before_listed hd n _ h h1
theorem waits_specT {F : List Nat} {listed : Array Bool} {i j : Nat} (hd : Down ops listed) (hF : i ∈ F) (hc : waitsT F ops j = true) (hj : j ∈ Region.ready .any ops listed) (hi : i ∈ Region.ready .any ops listed) (hne : j ≠ i) : False := by
  obtain ⟨_, oj, hoj, hall⟩ := mem_ready.1 hj
  obtain ⟨hun, _⟩ := mem_ready.1 hi
  simp only [waitsT, List.all_eq_true, Bool.or_eq_true, beq_iff_eq] at hc
  rcases hc i hF with h | h
  · exact hne h.symm
  · unfold before at h
    rw [hoj] at h
    simp only [Array.any_eq_true', Bool.and_eq_true, Bool.or_eq_true, beq_iff_eq] at h
    obtain ⟨e, he, hb, h⟩ := h
    have h1 := hall e he hb
    have h2 : listed.getD i false = true := by
      rcases h with rfl | h
      · exact h1
      · exact before_listed hd _ _ h h1
    rcases Nat.lt_or_ge i listed.size with h' | h'
    · simp [h'] at hun h2; rw [hun] at h2; cases h2
    · simp [Array.getElem?_eq_none h'] at h2

def wpAnyT (P : Program) (ops : Array Oper) (Q : Exit → Act → World → Prop) (S : World → Prop) (F0 : List Nat) : Nat → Array Bool → Act → World → Prop
  | 0, listed, a, w => Region.ready .any ops listed = [] ∧ Q .normal a w
  | fuel + 1, listed, a, w =>
    (Region.ready .any ops listed = [] → Q .normal a w) ∧
    ∀ i ∈ Region.ready .any ops listed, wpOp P ops Q i (fun a' w' => (waitsT F0 ops i = true ∨ S w') ∧ wpAnyT P ops Q S F0 fuel (listed.setIfInBounds i true) a' w') a w
theorem wpAny_of_T : ∀ (fuel : Nat) (listed : Array Bool) (a : Act) (w : World), wpAnyT P ops Q S F0 fuel listed a w → wpAny P .any ops Q fuel listed a w
  | 0, _, _, _, h => h
  | fuel + 1, _, _, _, h => ⟨h.1, fun i hi => wpOp_mono (fun a' w' h' => wpAny_of_T fuel _ a' w' h'.2) (h.2 i hi)⟩
theorem wpAnyT_first {i : Nat} {oi : Oper} {v : Value} (hiF : i ∈ F0) (hi : ops[i]? = some oi) (hsel : ∀ (j : Nat) (o : Oper) cs b, ops[j]? = some o → o.op ≠ .select cs b)
    (hQ : ∀ c a w, Q (.panic c) (a.put oi.dst v) w → Q (.panic c) a w) :
    ∀ (fuel : Nat) (listed : Array Bool) (a : Act) (w : World),
      (∀ j oj, ops[j]? = some oj → j ≠ i → listed.getD j true = false → (∀ e ∈ oj.after, Region.binds .any e = true → e.on ≠ i) → oi.apart ops oj = true) →
      Down ops listed → i ∈ Region.ready .any ops listed → YieldsIf P ops S oi v a → S w →
      wpAnyT P ops Q S F0 fuel (listed.setIfInBounds i true) (a.put oi.dst v) w → wpAnyT P ops Q S F0 (fuel + 1) listed a w := by
  intro fuel
  induction fuel with
  | zero =>
    intro listed a w _ _ hr hy hS H
    refine ⟨fun h => (by rw [h] at hr; cases hr), fun j hj => ?_⟩
    by_cases hji : j = i
    · subst hji; exact hy.wpOp hi hS ⟨.inr hS, H⟩
    · have := ready_mono hj hji
      rw [H.1] at this
      cases this
  | succ fuel ih =>
    intro listed a w hfree hd hr hy hS H
    refine ⟨fun h => (by rw [h] at hr; cases hr), fun j hj => ?_⟩
    by_cases hji : j = i
    · subst hji; exact hy.wpOp hi hS ⟨.inr hS, H⟩
    · have h1 := H.2 j (ready_mono hj hji)
      obtain ⟨hjun, oj, hoj, hall⟩ := mem_ready.1 hj
      have hnot : ∀ e ∈ oj.after, Region.binds .any e = true → e.on ≠ i := fun e he hb heq => by
        have h1 := hall e he hb
        have h0 := (mem_ready.1 hr).1
        rw [heq] at h1
        rcases Nat.lt_or_ge i listed.size with h' | h'
        · simp [h'] at h0 h1; rw [h0] at h1; cases h1
        · simp [Array.getElem?_eq_none h'] at h1
      have h2 := wpOp_putIf hoj (hfree j oj hoj hji hjun hnot) (fun cs b => hsel i oi cs b hi) (fun cs b => hsel j oj cs b hoj) hQ hy h1
      have hfree' : ∀ k ok, ops[k]? = some ok → k ≠ i → (listed.setIfInBounds j true).getD k true = false →
          (∀ e ∈ ok.after, Region.binds .any e = true → e.on ≠ i) → oi.apart ops ok = true := fun k ok hk hki hun hno => by
        refine hfree k ok hk hki ?_ hno
        by_cases hjk : j = k
        · subst hjk; exact hjun
        · rw [getD_set_ne true hjk] at hun; exact hun
      refine wpOp_mono (fun a' w' h3 => ?_) h2
      have hS' : S w' := h3.2.1.resolve_left (fun hc => waits_specT hd hiF hc hj hr hji)
      refine ⟨.inr hS', ih (listed.setIfInBounds j true) a' w' hfree' (hd.set hj) (ready_mono hr (Ne.symm hji)) h3.1 hS' ?_⟩
      rw [Array.setIfInBounds_comm _ _ hji]
      exact h3.2.2

def AlongT (P : Program) (ops : Array Oper) (Q : Exit → Act → World → Prop) (S : World → Prop) (F0 : List Nat) : Sch → Act → World → Prop
  | .done, a, w => Q .normal a w
  | .take i r, a, w => ∃ o v, ops[i]? = some o ∧ YieldsIf P ops S o v a ∧ AlongT P ops Q S F0 r (a.put o.dst v) w
  | .step i r, a, w => wpOp P ops Q i (fun a' w' => ((r.takes = [] ∧ waitsT F0 ops i = true) ∨ S w') ∧ AlongT P ops Q S F0 r a' w') a w
  | .fork i j r s, a, w => wpOp P ops Q i (fun a' w' => ((r.takes = [] ∧ waitsT F0 ops i = true) ∨ S w') ∧ AlongT P ops Q S F0 r a' w') a w ∧ wpOp P ops Q j (fun a' w' => ((s.takes = [] ∧ waitsT F0 ops j = true) ∨ S w') ∧ AlongT P ops Q S F0 s a' w') a w
def okST (ops : Array Oper) (F0 : List Nat) : Array Bool → Sch → Bool
  | listed, .done => Region.ready .any ops listed == []
  | listed, .take i r => F0.contains i && Region.free .any ops listed i && (Region.ready .any ops listed).contains i && okST ops F0 (listed.setIfInBounds i true) r
  | listed, .step i r => Region.ready .any ops listed == [i] && okST ops F0 (listed.setIfInBounds i true) r
  | listed, .fork i j r s => Region.ready .any ops listed == [i, j] && r.len == s.len && okST ops F0 (listed.setIfInBounds i true) r && okST ops F0 (listed.setIfInBounds j true) s
theorem wpAnyT_along (hs : Region.noSelect ops = true) (hQ : ∀ (d : Option Tmp) (v : Value) c a w, Q (.panic c) (a.put d v) w → Q (.panic c) a w) :
    ∀ (M : Sch) (listed : Array Bool) (a : Act) (w : World), Down ops listed → okST ops F0 listed M = true → (M.takes = [] ∨ S w) → AlongT P ops Q S F0 M a w → wpAnyT P ops Q S F0 M.len listed a w := by
  intro M
  induction M with
  | done => intro listed a w _ hok _ h; exact ⟨by simpa [okST] using hok, h⟩
  | take i r ih =>
    intro listed a w hd hok hS h
    have hS' : S w := hS.resolve_left (by simp [Sch.takes])
    obtain ⟨o, v, ho, hy, h'⟩ := h
    simp only [okST, Bool.and_eq_true] at hok
    have h1 := ih (listed.setIfInBounds i true) (a.put o.dst v) w (hd.set (by simpa using hok.1.2)) hok.2 (.inr hS') h'
    exact wpAnyT_first (by simpa using hok.1.1.1) ho (Region.noSelect_spec hs) (hQ _ _) _ listed a w (Region.free_spec ho hok.1.1.2) hd (by simpa using hok.1.2) hy hS' h1
  | step i r ih =>
    intro listed a w hd hok hS h
    simp only [okST, Bool.and_eq_true, beq_iff_eq] at hok
    refine ⟨fun h0 => (by rw [hok.1] at h0; cases h0), fun j hj => ?_⟩
    have hj0 := hj
    rw [hok.1] at hj
    have : j = i := by simpa using hj
    subst this
    exact wpOp_mono (fun a' w' h' => ⟨h'.1.imp And.right id, ih _ a' w' (hd.set hj0) hok.2 (h'.1.imp And.left id) h'.2⟩) h
  | fork i j r s ihr ihs =>
    intro listed a w hd hok hS h
    simp only [okST, Bool.and_eq_true, beq_iff_eq] at hok
    obtain ⟨⟨⟨h1, h2⟩, h5⟩, h6⟩ := hok
    refine ⟨fun h0 => (by rw [h1] at h0; cases h0), fun x hx => ?_⟩
    have hx0 := hx
    rw [h1] at hx
    have hx' : x = i ∨ x = j := by simpa using hx
    rcases hx' with rfl | rfl
    · exact wpOp_mono (fun a' w' h' => ⟨h'.1.imp And.right id, ihr _ a' w' (hd.set hx0) h5 (h'.1.imp And.left id) h'.2⟩) h.1
    · refine wpOp_mono (fun a' w' h' => ⟨h'.1.imp And.right id, ?_⟩) h.2
      have := ihs _ a' w' (hd.set hx0) h6 (h'.1.imp And.left id) h'.2
      rwa [← h2] at this
def okSchT (ops : Array Oper) (M : Sch) : Bool := Region.noSelect ops && okST ops M.takes (Array.replicate ops.size false) M && (M.len == ops.size)
theorem wp_region_scht {id : Nat} {a : Act} {w : World} (S : World → Prop) (M : Sch) (hm : P.follows .mixedOrders = true) (hok : okSchT ops M = true) (hS : S w.drew)
    (h : AlongT P ops (NoPanic Q) S M.takes M a w.drew) : (Code.region id ops true).wp P Q a w := by
  simp only [okSchT, Bool.and_eq_true, beq_iff_eq] at hok
  refine wp_region_noPanic (wp_region_any hm (wpAny_of_T (S := S) (F0 := M.takes) _ _ _ _ ?_))
  have key := wpAnyT_along (P := P) (S := S) (F0 := M.takes) (Q := NoPanic Q) hok.1.1 (fun _ _ _ _ _ h => h) M _ a w.drew (Down.start _) hok.1.2 (.inr hS) h
  rw [hok.2] at key
  exact key

theorem AlongT.take {i : Nat} {r : Sch} {o : Oper} {v : Value} {a : Act} {w : World} (ho : ops[i]? = some o) (hw : Region.wanted o (yielded ops a.tmps) = true)
    (hv : ∀ w, S w → (execOp a.eval o).run P w = .ok (.value v) w) (h : AlongT P ops Q S F0 r (a.put o.dst v) w) : AlongT P ops Q S F0 (.take i r) a w := ⟨o, v, ho, .inl ⟨hw, hv⟩, h⟩
theorem AlongT.pass {i : Nat} {r : Sch} {o : Oper} {a : Act} {w : World} (ho : ops[i]? = some o) (hw : Region.wanted o (yielded ops a.tmps) = false)
    (h : AlongT P ops Q S F0 r (a.put o.dst undef) w) : AlongT P ops Q S F0 (.take i r) a w := ⟨o, undef, ho, .inr ⟨hw, rfl⟩, h⟩
theorem AlongT.step {i : Nat} {r : Sch} {o : Oper} {a : Act} {w : World} (ho : ops[i]? = some o) (hw : Region.wanted o (yielded ops a.tmps) = true)
    (h : ∀ K : Act → World → Prop, (∀ a w, S w → AlongT P ops Q S F0 r a w → K a w) → o.wp P a w K Q) : AlongT P ops Q S F0 (.step i r) a w := by
  show wpOp P ops Q i _ a w
  unfold wpOp
  simp only [ho, hw, if_true]
  exact .inl (h _ (fun a w h1 h2 => ⟨.inr h1, h2⟩))
theorem AlongT.last {i : Nat} {r : Sch} {o : Oper} {a : Act} {w : World} (hc : waitsT F0 ops i = true) (hr : r.takes = []) (ho : ops[i]? = some o) (hw : Region.wanted o (yielded ops a.tmps) = true)
    (h : ∀ K : Act → World → Prop, (∀ a w, AlongT P ops Q S F0 r a w → K a w) → o.wp P a w K Q) : AlongT P ops Q S F0 (.step i r) a w := by
  show wpOp P ops Q i _ a w
  unfold wpOp
  simp only [ho, hw, if_true]
  exact .inl (h _ (fun a w h1 => ⟨.inl ⟨hr, hc⟩, h1⟩))
theorem AlongT.skip {i : Nat} {r : Sch} {o : Oper} {a : Act} {w : World} (ho : ops[i]? = some o) (hw : Region.wanted o (yielded ops a.tmps) = false) (hS : S w)
    (h : AlongT P ops Q S F0 r (a.put o.dst undef) w) : AlongT P ops Q S F0 (.step i r) a w := by
  show wpOp P ops Q i _ a w
  unfold wpOp
  simp only [ho, hw]
  exact ⟨.inr hS, h⟩
theorem AlongT.fork {i j : Nat} {r s : Sch} {a : Act} {w : World} (h1 : AlongT P ops Q S F0 (.step i r) a w) (h2 : AlongT P ops Q S F0 (.step j s) a w) : AlongT P ops Q S F0 (.fork i j r s) a w := ⟨h1, h2⟩
theorem AlongT.done {a : Act} {w : World} (h : Q .normal a w) : AlongT P ops (NoPanic Q) S F0 .done a w := h
end
end Go.Proofs.Ytcbabfndfikejaa
