/- In one: A region that draws its order, walked along a schedule: what only reads may be taken first, what is forced is stepped, and where two may come next both ways are walked. The walk of spec.Alike: it is equality of the trees that the nodes stand for. Condition: the tables' parents stand ahead. A table that came in as an argument, opened; and its copy by laws.nodes. No condition. The laws FnEqual and FnHash: their walks. Condition: none but that the table reads. Maps with whole numbers as keys, as lists of pairs: the laws of a look-up and of a store. No condition. The store of choices (JStore): how it lies in memory, and the walks of its making, of Get and of Put. Condition: the choices lie in memory and are well made. Maps with choices' addresses as keys, as lists of pairs: the laws of a look-up and of a first store. Condition: what the keys point to is known. -/
import Derived.OrdersHeld
import Derived.Deep.RegionHeld3
import Derived.Test.YtcbabfndfikejaaZ1
import Derived.Test.YtcbabfndfikejaaZ0
import Derived.Deep.Slices
import Derived.Deep.Fields
import Derived.ChangeSame
import Derived.ProofKit
import Derived.MapKept
import Derived.LaidEqlPtr
namespace Go.Proofs.Ytcbabfndfikejaa
/-- take i: i only reads; step i: i is forced; fork i j: either may come next. -/
inductive Sch where
  | done
  | take (i : Nat) (r : Sch)
  | step (i : Nat) (r : Sch)
  | fork (i j : Nat) (r s : Sch)
namespace Sch
def len : Sch → Nat
  | .done => 0
  | .take _ r => r.len + 1
  | .step _ r => r.len + 1
  | .fork _ _ r _ => r.len + 1
def takes : Sch → List Nat
  | .done => []
  | .take i r => i :: r.takes
  | .step _ r => r.takes
  | .fork _ _ r s => r.takes ++ s.takes
end Sch
section
variable {P : Program} {ops : Array Oper} {Q : Exit → Act → World → Prop} {S : World → Prop} {F0 : List Nat}
/-- Does operation j wait for all of F? -/
def waits (F : List Nat) (ops : Array Oper) (j : Nat) : Bool := match ops[j]? with
  | some o => F.all fun k => k == j || o.after.any fun e => Region.binds .any e && e.on == k
  | none => false
theorem waits_spec {F : List Nat} {listed : Array Bool} {i j : Nat} (hF : i ∈ F) (hc : waits F ops j = true) (hj : j ∈ Region.ready .any ops listed) (hi : i ∈ Region.ready .any ops listed) (hne : j ≠ i) : False := by
  obtain ⟨_, oj, hoj, hall⟩ := mem_ready.1 hj
  obtain ⟨hun, _⟩ := mem_ready.1 hi
  simp only [waits, hoj, List.all_eq_true, Bool.or_eq_true, beq_iff_eq, Array.any_eq_true', Bool.and_eq_true] at hc
  rcases hc i hF with h | ⟨e, he, hb, hon⟩
  · exact hne h.symm
  · have := hall e he hb
    rw [hon] at this
    rcases Nat.lt_or_ge i listed.size with h' | h'
    · simp [h'] at this hun; rw [hun] at this; cases this
    · simp [Array.getElem?_eq_none h'] at this
def wpAnyS (P : Program) (ops : Array Oper) (Q : Exit → Act → World → Prop) (S : World → Prop) (F0 : List Nat) : Nat → Array Bool → Act → World → Prop
  | 0, listed, a, w => Region.ready .any ops listed = [] ∧ Q .normal a w
  | fuel + 1, listed, a, w =>
    (Region.ready .any ops listed = [] → Q .normal a w) ∧
    ∀ i ∈ Region.ready .any ops listed, wpOp P ops Q i (fun a' w' => (waits F0 ops i = true ∨ S w') ∧ wpAnyS P ops Q S F0 fuel (listed.setIfInBounds i true) a' w') a w
theorem wpAny_of_S : ∀ (fuel : Nat) (listed : Array Bool) (a : Act) (w : World), wpAnyS P ops Q S F0 fuel listed a w → wpAny P .any ops Q fuel listed a w
  | 0, _, _, _, h => h
  | fuel + 1, _, _, _, h => ⟨h.1, fun i hi => wpOp_mono (fun a' w' h' => wpAny_of_S fuel _ a' w' h'.2) (h.2 i hi)⟩
theorem wpAnyS_first {i : Nat} {oi : Oper} {v : Value} (hiF : i ∈ F0) (hi : ops[i]? = some oi) (hsel : ∀ (j : Nat) (o : Oper) cs b, ops[j]? = some o → o.op ≠ .select cs b)
    (hQ : ∀ c a w, Q (.panic c) (a.put oi.dst v) w → Q (.panic c) a w) :
    ∀ (fuel : Nat) (listed : Array Bool) (a : Act) (w : World),
      (∀ j oj, ops[j]? = some oj → j ≠ i → listed.getD j true = false → (∀ e ∈ oj.after, Region.binds .any e = true → e.on ≠ i) → oi.apart ops oj = true) →
      i ∈ Region.ready .any ops listed → YieldsIf P ops S oi v a → S w →
      wpAnyS P ops Q S F0 fuel (listed.setIfInBounds i true) (a.put oi.dst v) w → wpAnyS P ops Q S F0 (fuel + 1) listed a w := by
  intro fuel
  induction fuel with
  | zero =>
    intro listed a w _ hr hy hS H
    refine ⟨fun h => (by rw [h] at hr; cases hr), fun j hj => ?_⟩
    by_cases hji : j = i
    · subst hji; exact hy.wpOp hi hS ⟨.inr hS, H⟩
    · have := ready_mono hj hji
      rw [H.1] at this
      cases this
  | succ fuel ih =>
    intro listed a w hfree hr hy hS H
    refine ⟨fun h => (by rw [h] at hr; cases hr), fun j hj => ?_⟩
    by_cases hji : j = i
    · subst hji; exact hy.wpOp hi hS ⟨.inr hS, H⟩
    · have h1 := H.2 j (ready_mono hj hji)
      obtain ⟨hjun, oj, hoj, hall⟩ := mem_ready.1 hj
      have hnot : ∀ e ∈ oj.after, Region.binds .any e = true → e.on ≠ i := fun e he hb heq => by
        have h1 := hall e he hb
        have h0 := (mem_ready.1 hr).1
        rw [heq] at h1
        rcases Nat.lt_or_ge i listed.size with h' | h'
        · simp [h'] at h0 h1; rw [h0] at h1; cases h1
        · simp [Array.getElem?_eq_none h'] at h1
      have h2 := wpOp_putIf hoj (hfree j oj hoj hji hjun hnot) (fun cs b => hsel i oi cs b hi) (fun cs b => hsel j oj cs b hoj) hQ hy h1
      have hfree' : ∀ k ok, ops[k]? = some ok → k ≠ i → (listed.setIfInBounds j true).getD k true = false →
          (∀ e ∈ ok.after, Region.binds .any e = true → e.on ≠ i) → oi.apart ops ok = true := fun k ok hk hki hun hno => by
        refine hfree k ok hk hki ?_ hno
        by_cases hjk : j = k
        · subst hjk; exact hjun
        · rw [getD_set_ne true hjk] at hun; exact hun
      refine wpOp_mono (fun a' w' h3 => ?_) h2
      have hS' : S w' := h3.2.1.resolve_left (fun hc => waits_spec hiF hc hj hr hji)
      refine ⟨.inr hS', ih (listed.setIfInBounds j true) a' w' hfree' (ready_mono hr (Ne.symm hji)) h3.1 hS' ?_⟩
      rw [Array.setIfInBounds_comm _ _ hji]
      exact h3.2.2
def Along (P : Program) (ops : Array Oper) (Q : Exit → Act → World → Prop) (S : World → Prop) (F0 : List Nat) : Sch → Act → World → Prop
  | .done, a, w => Q .normal a w
  | .take i r, a, w => ∃ o v, ops[i]? = some o ∧ YieldsIf P ops S o v a ∧ Along P ops Q S F0 r (a.put o.dst v) w
  | .step i r, a, w => wpOp P ops Q i (fun a' w' => ((r.takes = [] ∧ waits F0 ops i = true) ∨ S w') ∧ Along P ops Q S F0 r a' w') a w
  | .fork i j r s, a, w => wpOp P ops Q i (fun a' w' => ((r.takes = [] ∧ waits F0 ops i = true) ∨ S w') ∧ Along P ops Q S F0 r a' w') a w ∧ wpOp P ops Q j (fun a' w' => ((s.takes = [] ∧ waits F0 ops j = true) ∨ S w') ∧ Along P ops Q S F0 s a' w') a w
def okS (ops : Array Oper) (F0 : List Nat) : Array Bool → Sch → Bool
  | listed, .done => Region.ready .any ops listed == []
  | listed, .take i r => F0.contains i && Region.free .any ops listed i && (Region.ready .any ops listed).contains i && okS ops F0 (listed.setIfInBounds i true) r
  | listed, .step i r => Region.ready .any ops listed == [i] && okS ops F0 (listed.setIfInBounds i true) r
  | listed, .fork i j r s => Region.ready .any ops listed == [i, j] && r.len == s.len && okS ops F0 (listed.setIfInBounds i true) r && okS ops F0 (listed.setIfInBounds j true) s
theorem wpAnyS_along (hs : Region.noSelect ops = true) (hQ : ∀ (d : Option Tmp) (v : Value) c a w, Q (.panic c) (a.put d v) w → Q (.panic c) a w) :
    ∀ (M : Sch) (listed : Array Bool) (a : Act) (w : World), okS ops F0 listed M = true → (M.takes = [] ∨ S w) → Along P ops Q S F0 M a w → wpAnyS P ops Q S F0 M.len listed a w := by
  intro M
  induction M with
  | done => intro listed a w hok _ h; exact ⟨by simpa [okS] using hok, h⟩
  | take i r ih =>
    intro listed a w hok hS h
    have hS' : S w := hS.resolve_left (by simp [Sch.takes])
    obtain ⟨o, v, ho, hy, h'⟩ := h
    simp only [okS, Bool.and_eq_true] at hok
    have h1 := ih (listed.setIfInBounds i true) (a.put o.dst v) w hok.2 (.inr hS') h'
    exact wpAnyS_first (by simpa using hok.1.1.1) ho (Region.noSelect_spec hs) (hQ _ _) _ listed a w (Region.free_spec ho hok.1.1.2) (by simpa using hok.1.2) hy hS' h1
  | step i r ih =>
    intro listed a w hok hS h
    simp only [okS, Bool.and_eq_true, beq_iff_eq] at hok
    refine ⟨fun h0 => (by rw [hok.1] at h0; cases h0), fun j hj => ?_⟩
    rw [hok.1] at hj
    have : j = i := by simpa using hj
    subst this
    exact wpOp_mono (fun a' w' h' => ⟨h'.1.imp And.right id, ih _ a' w' hok.2 (h'.1.imp And.left id) h'.2⟩) h
  | fork i j r s ihr ihs =>
    intro listed a w hok hS h
    simp only [okS, Bool.and_eq_true, beq_iff_eq] at hok
    obtain ⟨⟨⟨h1, h2⟩, h5⟩, h6⟩ := hok
    refine ⟨fun h0 => (by rw [h1] at h0; cases h0), fun x hx => ?_⟩
    rw [h1] at hx
    have hx' : x = i ∨ x = j := by simpa using hx
    rcases hx' with rfl | rfl
    · exact wpOp_mono (fun a' w' h' => ⟨h'.1.imp And.right id, ihr _ a' w' h5 (h'.1.imp And.left id) h'.2⟩) h.1
    · refine wpOp_mono (fun a' w' h' => ⟨h'.1.imp And.right id, ?_⟩) h.2
      have := ihs _ a' w' h6 (h'.1.imp And.left id) h'.2
      rwa [← h2] at this
def okSch (ops : Array Oper) (M : Sch) : Bool := Region.noSelect ops && okS ops M.takes (Array.replicate ops.size false) M && (M.len == ops.size)
theorem wp_region_sch {id : Nat} {a : Act} {w : World} (S : World → Prop) (M : Sch) (hm : P.follows .mixedOrders = true) (hok : okSch ops M = true) (hS : S w.drew)
    (h : Along P ops (NoPanic Q) S M.takes M a w.drew) : (Code.region id ops true).wp P Q a w := by
  simp only [okSch, Bool.and_eq_true, beq_iff_eq] at hok
  refine wp_region_noPanic (wp_region_any hm (wpAny_of_S (S := S) (F0 := M.takes) _ _ _ _ ?_))
  have key := wpAnyS_along (P := P) (S := S) (F0 := M.takes) (Q := NoPanic Q) hok.1.1 (fun _ _ _ _ _ h => h) M _ a w.drew hok.1.2 (.inr hS) h
  rw [hok.2] at key
  exact key
theorem Along.take {i : Nat} {r : Sch} {o : Oper} {v : Value} {a : Act} {w : World} (ho : ops[i]? = some o) (hw : Region.wanted o (yielded ops a.tmps) = true)
    (hv : ∀ w, S w → (execOp a.eval o).run P w = .ok (.value v) w) (h : Along P ops Q S F0 r (a.put o.dst v) w) : Along P ops Q S F0 (.take i r) a w := ⟨o, v, ho, .inl ⟨hw, hv⟩, h⟩
theorem Along.pass {i : Nat} {r : Sch} {o : Oper} {a : Act} {w : World} (ho : ops[i]? = some o) (hw : Region.wanted o (yielded ops a.tmps) = false)
    (h : Along P ops Q S F0 r (a.put o.dst undef) w) : Along P ops Q S F0 (.take i r) a w := ⟨o, undef, ho, .inr ⟨hw, rfl⟩, h⟩
theorem Along.step {i : Nat} {r : Sch} {o : Oper} {a : Act} {w : World} (ho : ops[i]? = some o) (hw : Region.wanted o (yielded ops a.tmps) = true)
    (h : ∀ K : Act → World → Prop, (∀ a w, S w → Along P ops Q S F0 r a w → K a w) → o.wp P a w K Q) : Along P ops Q S F0 (.step i r) a w := by
  show wpOp P ops Q i _ a w
  unfold wpOp
  simp only [ho, hw, if_true]
  exact .inl (h _ (fun a w h1 h2 => ⟨.inr h1, h2⟩))
theorem Along.last {i : Nat} {r : Sch} {o : Oper} {a : Act} {w : World} (hc : waits F0 ops i = true) (hr : r.takes = []) (ho : ops[i]? = some o) (hw : Region.wanted o (yielded ops a.tmps) = true)
    (h : ∀ K : Act → World → Prop, (∀ a w, Along P ops Q S F0 r a w → K a w) → o.wp P a w K Q) : Along P ops Q S F0 (.step i r) a w := by
  show wpOp P ops Q i _ a w
  unfold wpOp
  simp only [ho, hw, if_true]
  exact .inl (h _ (fun a w h1 => ⟨.inl ⟨hr, hc⟩, h1⟩))
theorem Along.skip {i : Nat} {r : Sch} {o : Oper} {a : Act} {w : World} (ho : ops[i]? = some o) (hw : Region.wanted o (yielded ops a.tmps) = false) (hS : S w)
    (h : Along P ops Q S F0 r (a.put o.dst undef) w) : Along P ops Q S F0 (.step i r) a w := by
  show wpOp P ops Q i _ a w
  unfold wpOp
  simp only [ho, hw]
  exact ⟨.inr hS, h⟩
theorem Along.fork {i j : Nat} {r s : Sch} {a : Act} {w : World} (h1 : Along P ops Q S F0 (.step i r) a w) (h2 : Along P ops Q S F0 (.step j s) a w) : Along P ops Q S F0 (.fork i j r s) a w := ⟨h1, h2⟩
theorem Along.done {a : Act} {w : World} (h : Q .normal a w) : Along P ops (NoPanic Q) S F0 .done a w := h
end
end Go.Proofs.Ytcbabfndfikejaa
namespace Go.Proofs.Ytcbabfndfikejaa
open Go.RowKit
set_option linter.unusedSimpArgs false
/-- the choice that a node stands for -/
def tr (ns : List Nd) (i : Nat) : Nat × Tops := (built ns).getD i (0, .nil)
def TabOk (ns : List Nd) : Prop := ns.length ≤ 1000 ∧ ∀ i nd, ns[i]? = some nd → nd.ps.length = nd.ss.length ∧ nd.ss.length ≤ 1000 ∧ ∀ j, j < nd.ss.length → ∃ p : Nat, nd.ps[j]? = some (p : Int) ∧ p < i
theorem built_at {ns : List Nd} {k : Nat} {j : Nat} (hj : j < k) (hk : k ≤ ns.length) : (built (ns.take k))[j]? = (built ns)[j]? := by
  have hlt : j < ns.length := by omega
  rw [built_take ns j ns[j] (List.getElem?_eq_getElem hlt), built_take (ns.take k) j ns[j] (by rw [List.getElem?_take, if_pos hj]; exact List.getElem?_eq_getElem hlt), List.take_take, Nat.min_eq_left (by omega)]
theorem mkTops_congr {bs bs' : List (Nat × Tops)} : ∀ (ps ss : List Int), (∀ p ∈ ps, bs.getD p.toNat (0, .nil) = bs'.getD p.toNat (0, .nil)) → mkTops bs ps ss = mkTops bs' ps ss
  | [], _, _ => by simp [mkTops]
  | _ :: _, [], _ => by simp [mkTops]
  | p :: ps, s :: ss, h => by
    simp only [mkTops]
    rw [h p (List.mem_cons_self ..), mkTops_congr ps ss (fun q hq => h q (List.mem_cons_of_mem _ hq))]
theorem tr_eq {ns : List Nd} {k : Nat} {nd : Nd} (hok : TabOk ns) (hk : ns[k]? = some nd) : tr ns k = (kindOf nd.ss.length, mkTops (built ns) nd.ps nd.ss) := by
  have hlt : k < ns.length := (List.getElem?_eq_some_iff.1 hk).1
  unfold tr
  rw [List.getD_eq_getElem?_getD, built_take ns k nd hk]
  show build1 (built (ns.take k)) nd = _
  unfold build1
  rw [mkTops_congr nd.ps nd.ss]
  intro p hp
  obtain ⟨h1, _, h2⟩ := hok.2 k nd hk
  obtain ⟨j, hj⟩ := List.getElem?_of_mem hp
  obtain ⟨q, hq, hqk⟩ := h2 j (by have := (List.getElem?_eq_some_iff.1 hj).1; omega)
  rw [hj] at hq; cases hq
  rw [List.getD_eq_getElem?_getD, List.getD_eq_getElem?_getD, Int.toNat_natCast, built_at hqk (by omega)]
theorem mkTops_at {bs : List (Nat × Tops)} : ∀ {ps ss : List Int} {j : Nat} {p : Nat} {s : Int}, ps[j]? = some (p : Int) → ss[j]? = some s → (mkTops bs ps ss).at? j = some (s, (bs.getD p (0, .nil)).1, (bs.getD p (0, .nil)).2)
  | [], _, _, _, _, h, _ => by simp at h
  | _ :: _, [], _, _, _, _, h => by simp at h
  | q :: ps, t :: ss, 0, p, s, h, h' => by
    simp at h h'
    subst h h'
    simp [mkTops, Tops.at?]
  | q :: ps, t :: ss, j + 1, p, s, h, h' => by
    simp only [mkTops, Tops.at?]
    exact mkTops_at (by simpa using h) (by simpa using h')
section
variable {ns ms : List Nd} {a b : Nat} {nd nd' : Nd}
end
end Go.Proofs.Ytcbabfndfikejaa
namespace Go.Proofs.Ytcbabfndfikejaa
open Go.RowKit Go.ChangeShapes Go.WideShapes Go.Deep
section
variable {H : Type} {enc : TypeId × Value → H} {P : Program} {w : World} {base : Nat} {spare : Nat → Bool} {held : Bool}
theorem open_slice_fields {t e : TypeId} {fs : Array Field} {fuel : Nat} {cs : List Value} {x : DataW H × List MemPlace} (ht : P.underlying t = some (.slice e)) (he : P.underlying e = some (.struct fs))
    (hone : oneCellFields P fs = true) (hC : P.cellsOf e = fs.size) (h : DataW.trod enc P w base spare held fuel t cs = some x) :
    (cs = [.slice none 0 0] ∧ x = (.nil, [])) ∨
    ∃ (a : Addr) (len cap m : Nat) (D : Nat → DataW H) (Pl : Nat → List MemPlace), cs = [.slice (some a) len cap] ∧ base ≤ a.block ∧ len ≤ cap ∧ cap ≤ maxLen ∧ m = (if spare a.block then cap else len) ∧
      x = (.slice ((List.range len).map D) ((List.range (m - len)).map fun j => D (len + j)), MemPlace.row a (m * fs.size) ++ (List.range m).flatMap Pl) ∧
      ∀ i, i < m → ∃ (ys : List (DataW H × List MemPlace)) (n : Nat), D i = .agg (ys.map (·.1)) ∧ Pl i = ys.flatMap (·.2) ∧ ys.length = fs.size ∧
        ∀ (j : Nat) (f : Field), fs[j]? = some f → ∃ (v : Value) (y : DataW H × List MemPlace), w.cell? (a.add (i * fs.size + j)) = some v ∧ ys[j]? = some y ∧ DataW.trod enc P w base spare held n f.type [v] = some y := by
  rcases open_slice ht h with h0 | ⟨a, len, cap, m, n, D, Pl, hcs, hb, hl, hm, hmm, hx, hi⟩
  · exact .inl h0
  · refine .inr ⟨a, len, cap, m, D, Pl, hcs, hb, hl, hm, hmm, by rw [hC] at hx; exact hx, fun i him => ?_⟩
    obtain ⟨cs', hc, ht'⟩ := hi i him
    rw [hC] at hc
    obtain ⟨ys, n', hn', hy, hlen, hyl, hf⟩ := DataW.trod_struct he ht'
    obtain ⟨_, hcl, hat⟩ := World.cells?_some hc
    simp only [Prod.mk.injEq] at hy
    refine ⟨ys, n', hy.1, hy.2, hyl, fun j f hj => ?_⟩
    obtain ⟨ho, hk⟩ := hone_of hone j f hj
    have hjl : j < fs.size := (Array.getElem?_eq_some_iff.1 hj).1
    have hcell := hat j hjl
    have hv : cs'[j]? = some (cs'[j]'(by omega)) := List.getElem?_eq_getElem (by omega)
    have h1 := hf j f hj
    rw [ho, hk] at h1
    have hone' : (cs'.drop j).take 1 = [cs'[j]'(by omega)] := by
      rw [List.drop_eq_getElem_cons (by omega)]
      rfl
    rw [hone'] at h1
    have hys : ys[j]? = some (ys[j]'(by omega)) := List.getElem?_eq_getElem (by omega)
    refine ⟨_, _, ?_, hys, h1.trans hys⟩
    rw [← Go.Deep.add_add, hcell, hv]
end
section
variable {H : Type} {enc : TypeId × Value → H} {w : World} {base : Nat} {spare : Nat → Bool} {held : Bool}
/-- a slice of ints, in one cell -/
theorem ints_of_trod {fuel : Nat} {v : Value} {x : DataW H × List MemPlace} (h : DataW.trod enc Try.prog w base spare held fuel 22 [v] = some x) :
    ∃ (A : Option Addr) (c : Nat) (vs : List Int), v = .slice A vs.length c ∧ Reads w w.heap.size 1 A vs.length (ints vs) := by
  rcases open_ints Try.underlying22 Try.underlying3 (by kernel_rfl) h with ⟨hcs, _⟩ | ⟨a, l, c, zs, hcs, _, hl, hm, hz, _, hcell, hwz⟩
  · simp at hcs
    exact ⟨none, 0, [], hcs, Reads.none_⟩
  · simp at hcs
    have hl' : l ≤ zs.length := by
      rcases hz with hz
      split at hz <;> omega
    refine ⟨some a, c, zs.take l, ?_, ⟨by simp [ints], fun hn => ?_⟩⟩
    · rw [hcs, List.length_take, Nat.min_eq_left hl']
    · have hlt : 0 < zs.length := by rw [List.length_take] at hn; omega
      refine ⟨a, rfl, by have := World.block_lt_of_cell? w _ (hcell 0 hlt); simpa [block_of_add] using this, fun j u hu => ?_⟩
      obtain ⟨v, hv, rfl⟩ := ints_at hu
      rw [List.getElem?_take] at hv
      split at hv
      · have hj : j < zs.length := by rcases Nat.lt_or_ge j zs.length with h | h; exact h; rw [List.getElem?_eq_none h] at hv; cases hv
        rw [hcell j hj, List.getD_eq_getElem?_getD, hv]; rfl
      · cases hv
theorem tbl_grow {a : Addr} : ∀ n : Nat, (∀ i, i < n → ∃ (u v : Value) (nd : Nd), w.cell? (a.add (i * 2)) = some u ∧ w.cell? (a.add (i * 2 + 1)) = some v ∧ NdVal w w.heap.size u v nd) →
    ∃ (ns : List Nd) (xs : List Value), ns.length = n ∧ xs.length = n * 2 ∧ (∀ j u, xs[j]? = some u → w.cell? (a.add j) = some u) ∧
      ∀ i nd, ns[i]? = some nd → ∃ u v, xs[i * 2]? = some u ∧ xs[i * 2 + 1]? = some v ∧ NdVal w w.heap.size u v nd := by
  intro n
  induction n with
  | zero => intro _; exact ⟨[], [], rfl, rfl, fun j u h => by simp at h, fun i nd h => by simp at h⟩
  | succ n ih =>
    intro h
    obtain ⟨ns, xs, h1, h2, h3, h4⟩ := ih fun i hi => h i (by omega)
    obtain ⟨u, v, nd, hu, hv, hnd⟩ := h n (by omega)
    refine ⟨ns ++ [nd], xs ++ [u, v], by simp [h1], by simp [h2]; omega, fun j x hj => ?_, fun i nd' hi => ?_⟩
    · rcases Nat.lt_or_ge j xs.length with hl | hl
      · rw [List.getElem?_append_left hl] at hj; exact h3 j x hj
      · rw [List.getElem?_append_right hl] at hj
        rcases Nat.lt_or_ge (j - xs.length) 1 with h0 | h0
        · have e : j = n * 2 := by omega
          have e0 : j - xs.length = 0 := by omega
          rw [e0] at hj; simp at hj; rw [e, hu, hj]
        · rcases Nat.lt_or_ge (j - xs.length) 2 with h5 | h5
          · have e : j = n * 2 + 1 := by omega
            have e0 : j - xs.length = 1 := by omega
            rw [e0] at hj; simp at hj; rw [e, hv, hj]
          · rw [List.getElem?_eq_none (by simpa using h5)] at hj; cases hj
    · rcases Nat.lt_or_ge i n with hl | hl
      · rw [List.getElem?_append_left (by omega)] at hi
        obtain ⟨u', v', e1, e2, e3⟩ := h4 i nd' hi
        exact ⟨u', v', by rw [List.getElem?_append_left (by omega)]; exact e1, by rw [List.getElem?_append_left (by omega)]; exact e2, e3⟩
      · rw [List.getElem?_append_right (by omega)] at hi
        have e : i = n := by
          rcases Nat.lt_or_ge n i with h5 | h5
          · rw [List.getElem?_eq_none (by simp; omega)] at hi; cases hi
          · omega
        subst e
        simp [h1] at hi
        subst hi
        exact ⟨u, v, by rw [List.getElem?_append_right (by omega)]; simp [h2], by rw [List.getElem?_append_right (by omega)]; simp [h2], hnd⟩
theorem cells56 : Try.prog.cellsOf 56 = 2 := by kernel_rfl
/-- A TABLE THAT CAME IN. -/
theorem tbl_of_arg {v : Value} {d : DataW H} {p : List MemPlace} (h : DataW.Trod enc Try.prog w base spare held 25 v d p) (hs : ∃ A l c, v = .slice A l c) :
    ∃ (A : Option Addr) (c : Nat) (ns : List Nd), v = .slice A ns.length c ∧ Tbl w w.heap.size A ns ∧ ns.length ≤ maxLen := by
  obtain ⟨A, l, c, rfl⟩ := hs
  obtain ⟨fuel, hf⟩ := h
  rcases open_slice_fields Try.underlying25 Try.underlying56 (by kernel_rfl) cells56 hf with ⟨hcs, _⟩ | ⟨a, len, cap, m, D, Pl, hcs, _, hl, hm, hmm, _, hi⟩
  · simp [Value.cells] at hcs
    obtain ⟨rfl, rfl, rfl⟩ := hcs
    exact ⟨none, 0, [], rfl, ⟨[], Reads.none_, fun i nd h => by simp at h⟩, by simp⟩
  · simp [Value.cells] at hcs
    obtain ⟨rfl, rfl, rfl⟩ := hcs
    have hlm : l ≤ m := by rw [hmm]; split <;> omega
    obtain ⟨ns, xs, h1, h2, h3, h4⟩ := tbl_grow (w := w) (a := a) l (by
      intro i hil
      obtain ⟨ys, n, _, _, _, hf⟩ := hi i (by omega)
      obtain ⟨u, yu, hu, _, tu⟩ := hf 0 _ rfl
      obtain ⟨v, yv, hv, _, tv⟩ := hf 1 _ rfl
      obtain ⟨A, c1, vs, rfl, r1⟩ := ints_of_trod tu
      obtain ⟨A', c2, vs', rfl, r2⟩ := ints_of_trod tv
      exact ⟨_, _, ⟨vs, vs'⟩, hu, hv, A, c1, A', c2, rfl, rfl, r1, r2⟩)
    refine ⟨some a, c, ns, by rw [h1], ⟨xs, ⟨by rw [h1, h2], fun hn => ⟨a, rfl, ?_, h3⟩⟩, h4⟩, by omega⟩
    have h0 := h3 0 _ (List.getElem?_eq_getElem (by omega))
    have := World.block_lt_of_cell? w _ h0
    simpa [block_of_add] using this
end
theorem Tbl.slices {w : World} {B : Nat} {A : Option Addr} {ns : List Nd} {xs : List Value} (h1 : Reads w B 2 A ns.length xs)
    (h2 : ∀ i nd, ns[i]? = some nd → ∃ u v, xs[i * 2]? = some u ∧ xs[i * 2 + 1]? = some v ∧ NdVal w B u v nd) : Slices xs := by
  intro j u hu
  have hl := h1.1
  have hj : j < xs.length := (List.getElem?_eq_some_iff.1 hu).1
  have hi : j / 2 < ns.length := by omega
  obtain ⟨a, b, ha, hb, A1, c1, A2, c2, rfl, rfl, _⟩ := h2 (j / 2) _ (List.getElem?_eq_getElem hi)
  rcases Nat.mod_two_eq_zero_or_one j with h | h
  · have e : j / 2 * 2 = j := by omega
    rw [e, hu] at ha; cases ha; exact ⟨_, _, _, rfl⟩
  · have e : j / 2 * 2 + 1 = j := by omega
    rw [e, hu] at hb; cases hb; exact ⟨_, _, _, rfl⟩
/-- laws.nodes hands on a table of the same nodes. -/
theorem lawsNodes_tbl (A : Option Addr) (c : Nat) (ns : List Nd) (w : World) (ht : Tbl w w.heap.size A ns) (hm : ns.length ≤ 2147483647) :
    Calls Try.prog 17 #[.slice A ns.length c] w (fun e w' => ∃ A' c', e = .returned (.slice A' ns.length c') ∧ Tbl w' w'.heap.size A' ns ∧ Below w.heap.size w w') := by
  obtain ⟨xs, h1, h2⟩ := ht
  refine (lawsNodes_any A c ns.length xs w h1 (Tbl.slices h1 h2) hm).mono ?_
  rintro e w' ⟨v, rfl, hown, hb⟩
  obtain ⟨A', c', rfl, hr⟩ := own_slice hown
  refine ⟨A', c', rfl, ⟨xs, hr, fun i nd hi => ?_⟩, hb⟩
  obtain ⟨u, v, e1, e2, e3⟩ := h2 i nd hi
  exact ⟨u, v, e1, e2, (e3.keep fun _ hp => hb.cell hp).more hb.size⟩
end Go.Proofs.Ytcbabfndfikejaa
namespace Go.Proofs.Ytcbabfndfikejaa
open Go.RowKit
set_option linter.unusedSimpArgs false
theorem GoodT.tab {ns : List Nd} (h : GoodT ns) : TabOk ns := by
  refine ⟨by have := h.1; omega, fun i nd hi => ?_⟩
  have hlt : i < ns.length := (List.getElem?_eq_some_iff.1 hi).1
  obtain ⟨h1, h2, h3⟩ := h.2 i nd hlt hi
  refine ⟨h1, by omega, fun j hj => ?_⟩
  obtain ⟨s, p, _, hp, _, _, hp0, hpi, _⟩ := h3 j hj
  exact ⟨p.toNat, by rw [hp, Int.toNat_of_nonneg hp0], by omega⟩
theorem mkTops_wf {bs : List (Nat × Tops)} : ∀ (ps ss : List Int), (∀ s ∈ ss, 0 ≤ s ∧ s ≤ 1000) → (∀ p ∈ ps, Wf (bs.getD p.toNat (0, .nil)).1 (bs.getD p.toNat (0, .nil)).2) → (mkTops bs ps ss).wf
  | [], _, _, _ => by simp [mkTops, Tops.wf]
  | _ :: _, [], _, _ => by simp [mkTops, Tops.wf]
  | p :: ps, s :: ss, h, h' => by
    simp only [mkTops, Tops.wf]
    have hp := h' p (List.mem_cons_self ..)
    exact ⟨h s (List.mem_cons_self ..), hp.1, hp.2, mkTops_wf ps ss (fun x hx => h x (List.mem_cons_of_mem _ hx)) (fun x hx => h' x (List.mem_cons_of_mem _ hx))⟩
theorem kindOk_of {n : Nat} {f : Tops} (hl : f.len = n) (hm : n ≤ 1000) : kindOk (kindOf n) f := by
  unfold kindOf
  by_cases h0 : n = 0
  · rw [if_pos h0]
    refine .inl ⟨rfl, ?_⟩
    cases f with
    | nil => rfl
    | cons => simp [Tops.len] at hl; omega
  · rw [if_neg h0]
    by_cases h1 : n = 1
    · rw [if_pos h1]; exact .inr (.inl ⟨rfl, by omega⟩)
    · rw [if_neg h1]; exact .inr (.inr ⟨rfl, by omega, by omega⟩)
theorem tr_wf {ns : List Nd} (hg : GoodT ns) : ∀ (n k : Nat), k < n → k < ns.length → Wf (tr ns k).1 (tr ns k).2 := by
  intro n
  induction n with
  | zero => intro k h; omega
  | succ n ih =>
    intro k hk hlt
    have hnd := List.getElem?_eq_getElem hlt
    generalize ns[k] = nd at hnd
    have hok := (hg.tab.2 k nd hnd)
    obtain ⟨h1, h2, h3⟩ := hg.2 k nd hlt hnd
    rw [tr_eq hg.tab hnd]
    refine ⟨kindOk_of (mkTops_len _ _ _ h1) (by omega), mkTops_wf _ _ ?_ ?_⟩
    · intro s hs
      obtain ⟨j, hj⟩ := List.getElem?_of_mem hs
      obtain ⟨s', p, e1, _, a1, a2, _⟩ := h3 j (List.getElem?_eq_some_iff.1 hj).1
      rw [hj] at e1; cases e1; exact ⟨a1, a2⟩
    · intro p hp
      obtain ⟨j, hj⟩ := List.getElem?_of_mem hp
      obtain ⟨q, hq, hqk⟩ := hok.2.2 j (by have := (List.getElem?_eq_some_iff.1 hj).1; omega)
      rw [hj] at hq; cases hq
      rw [Int.toNat_natCast]
      exact ih q (by omega) (by omega)
def Yes (w : World) (e : Ending) (w' : World) : Prop := e = .returned (.bool true) ∧ Below w.heap.size w w'
theorem Tbl.ext {w w' : World} {A : Option Addr} {ns : List Nd} (h : Tbl w w.heap.size A ns) (hb : Below w.heap.size w w') : Tbl w' w'.heap.size A ns := (h.below hb).more hb.size
theorem in_yes {a : Int} {n : Nat} (h : 0 ≤ a ∧ a < n) : (decide (0 ≤ a) && decide (a < (n : Int))) = true := by simp; omega
theorem in_no {a : Int} {n : Nat} (h : ¬ (0 ≤ a ∧ a < n)) : (decide (0 ≤ a) && decide (a < (n : Int))) = false := by rw [Bool.eq_false_iff]; simpa using h
end Go.Proofs.Ytcbabfndfikejaa
namespace Go.Proofs.Ytcbabfndfikejaa
open Go.RowKit
/-- the pairs of a map -/
abbrev Prs := List (Int × Value)
def Prs.look : Prs → Int → Option Value
  | [], _ => none
  | (x, v) :: t, h => if h = x then some v else Prs.look t h
def Prs.put : Prs → Int → Value → Prs
  | [], h, v => [(h, v)]
  | (x, u) :: t, h, v => if h = x then (x, v) :: t else (x, u) :: Prs.put t h v
def Prs.idx : Prs → Int → Nat → Option (Nat × Value)
  | [], _, _ => none
  | (x, v) :: t, h, i => if h = x then some (i, v) else Prs.idx t h (i + 1)
def Fits (l : List MapEntry) (D : Prs) : Prop := l.map (fun e => (e.key, e.val)) = D.map fun x => (Value.int .i64 x.1, x.2)
/-- Block m is a map of these pairs. -/
def MapAt (w : World) (m : Nat) (D : Prs) : Prop := ∃ es clock, w.heap[m]? = some (.map es clock) ∧ Fits es.toList D
theorem Prs.idx_look : ∀ (D : Prs) (h : Int) (i : Nat), (D.idx h i).map (·.2) = D.look h
  | [], _, _ => rfl
  | (x, v) :: t, h, i => by
    unfold Prs.idx Prs.look
    split
    · rfl
    · exact Prs.idx_look t h (i + 1)
theorem findNow_fits : ∀ (l : List MapEntry) (D : Prs) (h : Int) (i : Nat), Fits l D → Instr.findNow (.int .i64) (.int .i64 h) l i = some (D.idx h i)
  | [], [], _, _, _ => rfl
  | [], _ :: _, _, _, hf => by simp [Fits] at hf
  | _ :: _, [], _, _, hf => by simp [Fits] at hf
  | e :: l, (x, v) :: t, h, i, hf => by
    simp only [Fits, List.map_cons, List.cons.injEq, Prod.mk.injEq] at hf
    obtain ⟨⟨hk, hv⟩, hf⟩ := hf
    have ih := findNow_fits l t h (i + 1) hf
    unfold Instr.findNow Prs.idx
    rw [hk]
    by_cases hx : h = x
    · subst hx
      simp [Instr.sameNow, hv]
    · have hx' : (h == x) = false := by rw [beq_eq_false_iff_ne]; exact hx
      simp [Instr.sameNow, hx', hx, ih]
theorem Fits.nil : Fits [] [] := rfl
section
variable {P : Program} {w : World} {t k e : TypeId} {m : Nat} {D : Prs}
theorem run_lookup_int (ht : P.underlying t = some (.map k e)) (hk : P.underlying k = some (.int .i64)) (h : MapAt w m D) (x : Int) (z : Value) (hz : (zeroValue e).run P w = .ok z w) :
    (Instr.lookup t (.map (some m)) (.int .i64 x) false).run P w = .ok ((D.look x).getD z) w := by
  obtain ⟨es, clock, hb, hf⟩ := h
  have h1 := findNow_fits es.toList D x 0 hf
  have h2 := Prs.idx_look D x 0
  have hc : (Instr.checkKey es.isEmpty 10000 k (.int .i64 x)).run P w = .ok () w := MapKept.run_checkKey (k := .int .i64 x) hk (by simp [MapKept.IsKey]) _ 9999
  unfold Instr.lookup
  cases hi : D.idx x 0 with
  | none =>
    rw [hi] at h1 h2
    simp at h2
    simp [run_underlying ht, MapKept.run_getObj_map hb, hc, MapKept.run_findKey hk h1, Result.andThen, ← h2, hz]
  | some p =>
    rw [hi] at h1 h2
    simp at h2
    simp [run_underlying ht, MapKept.run_getObj_map hb, hc, MapKept.run_findKey hk h1, Result.andThen, ← h2]
theorem fits_push {l : List MapEntry} {D : Prs} {x : Int} {v : Value} {c : Nat} (hf : Fits l D) (hi : D.look x = none) : Fits (l ++ [{ key := .int .i64 x, val := v, born := c }]) (D.put x v) := by
  have e : D.put x v = D ++ [(x, v)] := by
    clear hf
    induction D with
    | nil => rfl
    | cons a t ih =>
      obtain ⟨y, u⟩ := a
      unfold Prs.look at hi
      split at hi
      · cases hi
      · rename_i hx
        unfold Prs.put
        rw [if_neg hx, ih hi]
        rfl
  rw [e]
  unfold Fits at hf ⊢
  rw [List.map_append, List.map_append, hf]
  rfl
theorem fits_set : ∀ {l : List MapEntry} {D : Prs} {x : Int} {v u : Value} {i j : Nat}, Fits l D → D.idx x i = some (j, u) → ∃ p, j = i + p ∧ (∃ e, l[p]? = some e ∧ e.key = .int .i64 x) ∧ Fits (l.modify p fun e => { e with key := .int .i64 x, val := v }) (D.put x v)
  | [], [], _, _, _, _, _, _, h => by simp [Prs.idx] at h
  | [], _ :: _, _, _, _, _, _, hf, _ => by simp [Fits] at hf
  | _ :: _, [], _, _, _, _, _, hf, _ => by simp [Fits] at hf
  | e :: l, (y, t) :: D, x, v, u, i, j, hf, h => by
    simp only [Fits, List.map_cons, List.cons.injEq, Prod.mk.injEq] at hf
    obtain ⟨⟨hk, hv⟩, hf⟩ := hf
    unfold Prs.idx at h
    split at h
    · rename_i hx
      subst hx
      cases h
      refine ⟨0, rfl, ⟨e, rfl, hk⟩, ?_⟩
      unfold Prs.put
      rw [if_pos rfl]
      simp only [Fits, List.modify_zero_cons, List.map_cons, List.cons.injEq]
      exact ⟨trivial, hf⟩
    · rename_i hx
      obtain ⟨p, hp, ⟨e', he, hek⟩, hfit⟩ := fits_set (l := l) (D := D) hf h
      refine ⟨p + 1, by omega, ⟨e', he, hek⟩, ?_⟩
      unfold Prs.put
      rw [if_neg hx]
      simp only [Fits, List.modify_succ_cons, List.map_cons, List.cons.injEq, Prod.mk.injEq]
      exact ⟨⟨hk, hv⟩, hfit⟩
theorem run_mapUpdate_int (ht : P.underlying t = some (.map k e)) (hk : P.underlying k = some (.int .i64)) (h : MapAt w m D) (x : Int) (v : Value) :
    ∃ w', (Instr.mapUpdate t (.map (some m)) (.int .i64 x) v).run P w = .ok () w' ∧ MapAt w' m (D.put x v) ∧ w.grownBy w' (some m) ∧ w'.heap.size = w.heap.size := by
  obtain ⟨es, clock, hb, hf⟩ := h
  have h1 := findNow_fits es.toList D x 0 hf
  have h2 := Prs.idx_look D x 0
  have hc : (Instr.checkKey false 10000 k (.int .i64 x)).run P w = .ok () w := MapKept.run_checkKey (k := .int .i64 x) hk (by simp [MapKept.IsKey]) _ 9999
  have grown : ∀ o, w.grownBy { w with heap := w.heap.setIfInBounds m o } (some m) := fun o => ⟨rfl, rfl, rfl, by simp, fun j _ hj => by
    have : j ≠ m := fun e => hj (by rw [e])
    exact (MapKept.heap_set hb).2 j this⟩
  have hlt : m < w.heap.size := (Array.getElem?_eq_some_iff.1 hb).1
  cases hi : D.idx x 0 with
  | none =>
    rw [hi] at h1 h2
    simp at h2
    refine ⟨{ w with heap := w.heap.setIfInBounds m (.map (es.push { key := .int .i64 x, val := v, born := clock }) (clock + 1)) }, ?_, ⟨_, _, (MapKept.heap_set hb).1, ?_⟩, grown _, by simp⟩
    · simp [Instr.mapUpdate, run_underlying ht, MapKept.run_getObj_map hb, hc, MapKept.run_findKey hk h1, Result.andThen, MapKept.run_setObj_map _ hb]
    · rw [Array.toList_push]
      exact fits_push hf h2.symm
  | some p =>
    rw [hi] at h1 h2
    simp at h2
    obtain ⟨q, hq, ⟨e', he, hek⟩, hfit⟩ := fits_set (v := v) hf hi
    have hq' : p.1 = q := by omega
    refine ⟨{ w with heap := w.heap.setIfInBounds m (.map (es.modify q fun e => { e with key := .int .i64 x, val := v }) clock) }, ?_, ⟨_, _, (MapKept.heap_set hb).1, ?_⟩, grown _, by simp⟩
    · have hgk : es[q]? = some e' := by rw [← Array.getElem?_toList]; exact he
      have hkt : (Instr.keyThatStays ((es[q]?.map (·.key)).getD (.int .i64 x)) (.int .i64 x)).run P w = .ok (.int .i64 x) w := by
        rw [hgk]
        simp [Instr.keyThatStays, hek, Instr.sameBits]
      simp [Instr.mapUpdate, run_underlying ht, MapKept.run_getObj_map hb, hc, MapKept.run_findKey hk h1, Result.andThen, MapKept.run_setObj_map _ hb, hkt, hq']
    · rw [Array.toList_modify]
      exact hfit
end
end Go.Proofs.Ytcbabfndfikejaa
namespace Go.Proofs.Ytcbabfndfikejaa
open Go.RowKit
set_option linter.unusedSimpArgs false
theorem method_hash (a : Addr) (w : World) : (method 269 72 (.pointer (some a)) "Hash").run Try.prog w = .ok (53, .pointer (some a)) w := by kernel_rfl
theorem method_equals (a : Addr) (w : World) : (method 269 72 (.pointer (some a)) "Equals").run Try.prog w = .ok (52, .pointer (some a)) w := by kernel_rfl
theorem method_hash1 (a : Addr) (w : World) : (method 269 104 (.pointer (some a)) "Hash1").run Try.prog w = .ok (124, .pointer (some a)) w := by kernel_rfl
theorem method_equals2 (a : Addr) (w : World) : (method 269 104 (.pointer (some a)) "Equals2").run Try.prog w = .ok (123, .pointer (some a)) w := by kernel_rfl
set_option maxRecDepth 20000 in
theorem hash1_any (c : Addr) (X : Nat → Prop) (p : Addr) (k : Nat) (f : Tops) (w : World) (h : Rep w X p k f) : Calls Try.prog 124 #[.pointer (some c), .pointer (some p)] w (IntPost (hsh k f) w) := by
  have H := Lib.hid h
  have qm := method_hash
  clear h
  go_enter Try.func124, Try.ntmps124
  go_wp2_with (go_at_call 53; refine (Hash_any _ _ _ _ _ H.out).mono ?_; rintro e w' ⟨rfl, rfl⟩)
  go_ret
  exact ⟨rfl, rfl⟩
set_option maxRecDepth 20000 in
theorem equals2_any (c : Addr) (f : Tops) (k : Nat) (f' : Tops) (k' : Nat) (p q : Addr) (w : World) (h : Rep w NoX p k f) (h' : Rep w NoX q k' f') (hw : Wf k f) (hw' : Wf k' f') :
    Calls Try.prog 123 #[.pointer (some c), .pointer (some p), .pointer (some q)] w (EqPost (eqB k f k' f') w) := by
  have H := Lib.hid (equals_any f k f' k' p q w h h' hw hw')
  have qm := method_equals
  clear h h' hw hw'
  go_enter Try.func123, Try.ntmps123
  go_wp2_with fail
  refine H.out.mono ?_
  rintro e w' ⟨rfl, hd⟩
  have HD := Lib.hid hd
  clear hd
  go_wp2_with fail
  go_ret
  exact ⟨rfl, HD.out⟩
theorem newJStore_any (c : Addr) (s : ByteArray) (w : World) : Calls Try.prog 72 #[.iface 104 (.pointer (some c)), .int .i64 5, .string s] w
    (fun e w' => e = .returned (.pointer (some ⟨w.heap.size + 1, 0, none⟩)) ∧ w' = (w.alloc (.map #[] 0)).alloc (.cells #[.map (some w.heap.size), .int .i64 0, .iface 104 (.pointer (some c))] 131)) := by
  have hmm : ∀ w : World, (Instr.makeMap 129 (some (.int .i64 1))).run Try.prog w = .ok (.map (some w.heap.size)) (w.alloc (.map #[] 0)) := fun w => by
    simp [Instr.makeMap, run_underlying Try.underlying129]; rfl
  have hn : ∀ (w : World) x, (binOp .eql 103 (.iface 104 x) .nilIface).run Try.prog w = .ok (.bool false) w := fun w x => by simp [go_sem, Try.underlying103]
  go_enter Try.func72, Try.ntmps72
  go_wp2
  go_ret
  exact ⟨rfl, rfl⟩
/-- a known choice: its address, its kind and its tops -/
abbrev Kn := Addr × Nat × Tops
def hashIs (h : Int) (x : Kn) : Bool := decide (hsh x.2.1 x.2.2 = h)
def treeIs (k : Nat) (f : Tops) (x : Kn) : Bool := decide (x.2 = (k, f))
/-- the first known one that is equal -/
def fstK (kn : List Kn) (k : Nat) (f : Tops) : Option Addr := (kn.find? (treeIs k f)).map (·.1)
theorem find_filter (kn : List Kn) (k : Nat) (f : Tops) : (kn.filter (hashIs (hsh k f))).find? (treeIs k f) = kn.find? (treeIs k f) := by
  induction kn with
  | nil => rfl
  | cons a t ih =>
    by_cases h : treeIs k f a = true
    · have h2 : hashIs (hsh k f) a = true := by
        unfold treeIs at h; unfold hashIs
        have := of_decide_eq_true h
        rw [this]; exact decide_eq_true rfl
      rw [List.filter_cons_of_pos h2, List.find?_cons_of_pos h, List.find?_cons_of_pos h]
    · rw [List.find?_cons_of_neg h]
      by_cases h2 : hashIs (hsh k f) a = true
      · rw [List.filter_cons_of_pos h2, List.find?_cons_of_neg h, ih]
      · rw [List.filter_cons_of_neg h2, ih]
theorem find_at {l : List Kn} {P : Kn → Bool} {j : Nat} {y : Kn} (h : ∀ i, i < j → ∀ x, l[i]? = some x → P x = false) (hj : l[j]? = some y) (hy : P y = true) : l.find? P = some y := by
  induction l generalizing j with
  | nil => simp at hj
  | cons a t ih =>
    cases j with
    | zero => simp at hj; subst hj; exact List.find?_cons_of_pos hy
    | succ j =>
      have h0 := h 0 (by omega) a rfl
      rw [List.find?_cons_of_neg (by rw [h0]; decide)]
      exact ih (j := j) (fun i hi x hx => h (i + 1) (by omega) x (by simpa using hx)) (by simpa using hj)
theorem find_no {l : List Kn} {P : Kn → Bool} (h : ∀ i, i < l.length → ∀ x, l[i]? = some x → P x = false) : l.find? P = none := by
  rw [List.find?_eq_none]
  intro x hx
  obtain ⟨i, hi⟩ := List.getElem?_of_mem hx
  rw [h i (List.getElem?_eq_some_iff.1 hi).1 x hi]; decide
/-- the buckets: hash, the slice, its pointers -/
abbrev Bk := Int × Value × List Addr
def bkt : List Bk → Int → List Addr
  | [], _ => []
  | (x, _, l) :: t, h => if h = x then l else bkt t h
def bval : List Bk → Int → Value
  | [], _ => .slice none 0 0
  | (x, v, _) :: t, h => if h = x then v else bval t h
theorem bval_look : ∀ (T : List Bk) (h : Int), (Prs.look (T.map fun x => (x.1, x.2.1)) h).getD (.slice none 0 0) = bval T h
  | [], _ => rfl
  | (x, v, l) :: t, h => by
    simp only [List.map_cons, Prs.look, bval]
    split
    · rfl
    · exact bval_look t h
/-- The store lies at s. -/
def JS (B : Nat) (w : World) (s : Nat) (kn : List Kn) : Prop :=
  ∃ (m : Nat) (c : Addr) (len : Int) (T : List Bk),
    w.heap[s]? = some (.cells #[.map (some m), .int .i64 len, .iface 104 (.pointer (some c))] 131 (0, 0)) ∧ B ≤ s ∧ B ≤ m ∧ 0 ≤ len ∧ len ≤ kn.length ∧
    MapAt w m (T.map fun x => (x.1, x.2.1)) ∧ (∀ x ∈ T, w.ownsRow B 72 1 x.2.1 x.2.2.length (ptrs x.2.2) ∧ 0 < x.2.2.length) ∧
    T.Pairwise (fun x y => x.2.1.ownBlock ≠ y.2.1.ownBlock) ∧ ∀ h, bkt T h = (kn.filter (hashIs h)).map (·.1)
theorem bval_own {w : World} {B : Nat} : ∀ {T : List Bk} (h : Int), (∀ x ∈ T, w.ownsRow B 72 1 x.2.1 x.2.2.length (ptrs x.2.2) ∧ 0 < x.2.2.length) → w.ownsRow B 72 1 (bval T h) (bkt T h).length (ptrs (bkt T h))
  | [], _, _ => World.ownsRow_nil _ _ _ _
  | (x, v, l) :: t, h, ha => by
    unfold bval bkt
    split
    · exact (ha _ (List.mem_cons_self ..)).1
    · exact bval_own h (fun x hx => ha x (List.mem_cons_of_mem _ hx))
theorem zero73 (w : World) : (zeroValue 73).run Try.prog w = .ok (.slice none 0 0) w := by kernel_rfl
/-- All known choices lie in memory and are well made. -/
def AllK (w : World) (kn : List Kn) : Prop := ∀ x ∈ kn, Rep w NoX x.1 x.2.1 x.2.2 ∧ Wf x.2.1 x.2.2
def TuplePost (p : Addr) (ok : Bool) (w : World) (e : Ending) (w' : World) : Prop := e = .returned (.tuple #[.pointer (some p), .bool ok]) ∧ Dr w w'
set_option maxRecDepth 20000 in
set_option maxHeartbeats 2000000 in
theorem storeGet_any (B : Nat) (w : World) (s : Nat) (kn : List Kn) (p : Addr) (k : Nat) (f : Tops) (hs : JS B w s kn) (hkn : AllK w kn) (hm : kn.length ≤ 1000) (hp : Rep w NoX p k f) (hw : Wf k f) :
    Calls Try.prog 74 #[.pointer (some ⟨s, 0, none⟩), .pointer (some p)] w (TuplePost ((fstK kn k f).getD p) (fstK kn k f).isSome w) := by
  obtain ⟨m, c, len, T, hsb, _, _, _, _, hmap, hown, _, hbk⟩ := hs
  have c0 : w.cell? ⟨s, 0, none⟩ = some (.map (some m)) := cell_of hsb 0
  have c2 : w.cell? ⟨s, 2, none⟩ = some (.iface 104 (.pointer (some c))) := cell_of hsb 2
  have hlk := run_lookup_int (P := Try.prog) Try.underlying129 Try.underlying3 hmap (hsh k f) _ (zero73 w)
  rw [bval_look] at hlk
  have hbo := bval_own (hsh k f) hown
  have hbl := hbk (hsh k f)
  have hfl : (kn.filter (hashIs (hsh k f))).length ≤ 1000 := Nat.le_trans (List.length_filter_le _ _) hm
  have hff := find_filter kn k f
  generalize hbs : kn.filter (hashIs (hsh k f)) = bl at *
  have HAK := Lib.hid (show AllK w bl from fun x hx => hkn x (by rw [← hbs] at hx; exact (List.mem_filter.1 hx).1))
  rw [hbl] at hbo
  obtain ⟨A, c', hv, hrd⟩ := own_slice hbo
  rw [hv] at hlk
  have hln : (bl.map (·.1)).length = bl.length := by simp
  rw [hln] at hrd hlk
  have HRD := Lib.hid hrd
  have HP := Lib.hid hp
  have HW := Lib.hid hw
  have HFF := Lib.hid (show fstK kn k f = (bl.find? (treeIs k f)).map (·.1) by unfold fstK; rw [hff])
  have q1 := method_hash1
  have q2 := method_equals2
  clear hsb hmap hown hbk hbo hbl hff hbs hkn hp hw hv hrd hln hm
  go_enter Try.func74, Try.ntmps74
  go_wp2_with fail
  refine (hash1_any c _ _ _ _ _ HP.out).mono ?_
  rintro e w' ⟨rfl, rfl⟩
  go_wp2_with fail
  go_loopw [22] (fun i wr => ∃ j : Nat, j ≤ bl.length ∧ i = .int .i64 j ∧ Hid (∀ i, i < j → ∀ x, bl[i]? = some x → treeIs k f x = false) ∧ Hid (Dr w wr)) (fun i _ => bl.length - (intOf i).toNat)
  case atStart => exact ⟨0, Nat.zero_le _, rfl, Lib.hid (fun i hi => absurd hi (by omega)), Lib.hid (Dr.refl _)⟩
  case round =>
    obtain ⟨j, hj, rfl, HN, HD⟩ := hrel
    have c2' : wr.cell? ⟨s, 2, none⟩ = some (.iface 104 (.pointer (some c))) := cell_bel c2 HD.out.below
    by_cases hlt : j < bl.length
    · have hbj := List.getElem?_eq_getElem hlt
      obtain ⟨b, off, u, rfl, _, hu, hc⟩ := (HRD.out.ext HD.out.below).at1 hlt
      obtain ⟨y, hy, rfl⟩ := ptrs_at hu
      rw [List.getElem?_map, hbj] at hy
      simp only [Option.map_some, Option.some.injEq] at hy
      have hak := HAK.out _ (List.getElem_mem hlt)
      generalize bl[j] = x at *
      obtain ⟨q, k1, f1⟩ := x
      simp only at hy hak
      subst hy
      have HBJ := Lib.hid hbj
      have HE := Lib.hid (equals2_any c f k f1 k1 p q wr (HP.out.stay HD.out.stay) (hak.1.stay HD.out.stay) HW.out hak.2)
      clear hbj hu hak
      go_wp2_with fail
      refine HE.out.mono ?_
      rintro e w' ⟨rfl, hd⟩
      have HD' := Lib.hid (HD.out.trans hd)
      clear hd
      by_cases heq : k = k1 ∧ f = f1
      · have HX := Lib.hid (show treeIs k f (q, k1, f1) = true from decide_eq_true (by rw [heq.1, heq.2]))
        rw [eqB_true heq]
        clear heq
        have HF := Lib.hid (show fstK kn k f = some q by rw [HFF.out, find_at HN.out HBJ.out HX.out]; rfl)
        go_wp2_with fail
        go_ret2
        exact ⟨by rw [HF.out]; rfl, HD'.out⟩
      · have HX := Lib.hid (show treeIs k f (q, k1, f1) = false from decide_eq_false (fun e => heq (by cases e; exact ⟨rfl, rfl⟩)))
        rw [eqB_false heq]
        clear heq
        go_wp2_with fail
        go_roundw
        case rel => exact ⟨j + 1, by omega, by go_num, Lib.hid (fun i hi x hx => by
          rcases Nat.lt_or_ge i j with h1 | h1
          · exact HN.out i h1 x hx
          · obtain rfl : i = j := by omega
            rw [HBJ.out] at hx; cases hx; exact HX.out), HD'⟩
        case measure => simp [intOf]; omega
    · have HF := Lib.hid (show fstK kn k f = none by rw [HFF.out, find_no (fun i hi => HN.out i (by omega))]; rfl)
      go_wp2_with fail
      go_ret2
      exact ⟨by rw [HF.out]; rfl, HD.out⟩
end Go.Proofs.Ytcbabfndfikejaa
namespace Go.Proofs.Ytcbabfndfikejaa
open Go.RowKit
set_option linter.unusedSimpArgs false
/-- What an address points to is a choice's struct. -/
def AtCtx (w : World) (a : Addr) : Prop := ∃ c, w.heap[a.block]? = some (.cells c 97 (0, 0))
theorem Rep.atCtx {w : World} {X : Nat → Prop} {p : Addr} {k : Nat} {f : Tops} (h : Rep w X p k f) : AtCtx w p := by
  obtain ⟨g, c2, c3, c4, c5, rfl, _, hg⟩ := h.head
  exact ⟨_, hg⟩
theorem AtCtx.stay {w w' : World} {a : Addr} (h : AtCtx w a) (hs : Stay w w') : AtCtx w' a := by
  obtain ⟨c, hc⟩ := h
  exact ⟨c, hs.2 _ _ _ (.inl rfl) hc⟩
theorem equal72_same (w : World) (a : Addr) : (Op.equal 72 (.pointer (some a)) (.pointer (some a))).run Try.prog w = .ok true w := by
  have h2 := size97
  cases e2 : Try.prog.info? 97 with
  | none => rw [e2] at h2; cases h2
  | some j =>
    have h : ∀ d : Nat, (Op.equalIn (d + 1) 72 (.pointer (some a)) (.pointer (some a))).run Try.prog w = .ok true w := fun d => by
      simp [Op.equalIn, run_underlying Try.underlying72, sizeOf, typeInfo, e2, run_sameAddr_same]
    simp [Op.equal, Op.maxDepth, h 9999]
theorem equal72_other (w : World) {a b : Addr} (hne : a ≠ b) (ha : AtCtx w a) (hb : AtCtx w b) : (Op.equal 72 (.pointer (some a)) (.pointer (some b))).run Try.prog w = .ok false w := by
  have h2 := size97
  obtain ⟨ca, ha⟩ := ha
  obtain ⟨cb, hb⟩ := hb
  cases e2 : Try.prog.info? 97 with
  | none => rw [e2] at h2; cases h2
  | some j =>
    have hsz : j.size ≠ 0 := by rw [e2] at h2; simp at h2; omega
    have h : ∀ d : Nat, (Op.equalIn (d + 1) 72 (.pointer (some a)) (.pointer (some b))).run Try.prog w = .ok false w := fun d => by
      simp [Op.equalIn, run_underlying Try.underlying72, sizeOf, typeInfo, e2, hsz, run_sameAddr_other w hne ha hb]
    simp [Op.equal, Op.maxDepth, h 9999]
abbrev PPrs := List (Addr × Value)
def PPrs.look : PPrs → Addr → Option Value
  | [], _ => none
  | (x, v) :: t, a => if a = x then some v else PPrs.look t a
def PFits (l : List MapEntry) (D : PPrs) : Prop := l.map (fun e => (e.key, e.val)) = D.map fun x => (Value.pointer (some x.1), x.2)
/-- Block m is a map of these pairs. -/
def PMap (w : World) (m : Nat) (D : PPrs) : Prop := ∃ es clock, w.heap[m]? = some (.map es clock) ∧ PFits es.toList D
theorem findAsking_ptr (w : World) (a : Addr) (ha : AtCtx w a) : ∀ (l : List MapEntry) (D : PPrs) (i : Nat), PFits l D → (∀ x ∈ D, AtCtx w x.1) →
    ∃ r, (Instr.findAsking 72 (.pointer (some a)) l i).run Try.prog w = .ok r w ∧ r.map (·.2) = D.look a
  | [], [], _, _, _ => ⟨none, by simp [Instr.findAsking, Sem.run_pure], rfl⟩
  | [], _ :: _, _, hf, _ => by simp [PFits] at hf
  | _ :: _, [], _, hf, _ => by simp [PFits] at hf
  | e :: l, (x, v) :: t, i, hf, hk => by
    simp only [PFits, List.map_cons, List.cons.injEq, Prod.mk.injEq] at hf
    obtain ⟨⟨h1, h2⟩, hf⟩ := hf
    unfold Instr.findAsking PPrs.look
    rw [h1]
    by_cases hx : a = x
    · subst hx
      refine ⟨some (i, e.val), ?_, by simp [h2]⟩
      simp [equal72_same, Result.andThen, Sem.run_pure]
    · obtain ⟨r, hr, hr2⟩ := findAsking_ptr w a ha l t (i + 1) hf (fun y hy => hk y (List.mem_cons_of_mem _ hy))
      refine ⟨r, ?_, by rw [if_neg hx]; exact hr2⟩
      simp [equal72_other w hx ha (hk (x, v) (List.mem_cons_self ..)), Result.andThen, hr]
theorem findKey_ptr (w : World) (a : Addr) (ha : AtCtx w a) (l : List MapEntry) (D : PPrs) (hf : PFits l D) (hk : ∀ x ∈ D, AtCtx w x.1) :
    ∃ r, (Instr.findKey 72 (.pointer (some a)) l).run Try.prog w = .ok r w ∧ r.map (·.2) = D.look a := by
  obtain ⟨r, hr, hr2⟩ := findAsking_ptr w a ha l D 0 hf hk
  refine ⟨r, ?_, hr2⟩
  cases l with
  | nil =>
    simp only [Instr.findKey, run_underlying Try.underlying72, Sem.run_bind, Result.andThen, Instr.findNow, Sem.run_pure]
    simpa [Instr.findAsking, Sem.run_pure] using hr
  | cons e l =>
    simp [Instr.findKey, run_underlying Try.underlying72, Result.andThen, Instr.findNow, Instr.sameNow, hr]
theorem checkKey_ptr (w : World) (a : Addr) (b : Bool) : (Instr.checkKey b 10000 72 (.pointer (some a))).run Try.prog w = .ok () w := by
  unfold Instr.checkKey
  simp [run_underlying Try.underlying72, Result.andThen, Sem.run_pure]
section
variable {w : World} {t e : TypeId} {m : Nat} {D : PPrs}
theorem run_lookup_ptr2 (ht : Try.prog.underlying t = some (.map 72 e)) (h : PMap w m D) (hk : ∀ x ∈ D, AtCtx w x.1) (a : Addr) (ha : AtCtx w a) (z : Value) (hz : (zeroValue e).run Try.prog w = .ok z w) :
    (Instr.lookup t (.map (some m)) (.pointer (some a)) true).run Try.prog w = .ok (.tuple #[(D.look a).getD z, .bool (D.look a).isSome]) w := by
  obtain ⟨es, clock, hb, hf⟩ := h
  obtain ⟨r, hr, hr2⟩ := findKey_ptr w a ha es.toList D hf hk
  have hc := checkKey_ptr w a es.isEmpty
  unfold Instr.lookup
  cases r with
  | none =>
    simp at hr2
    simp [run_underlying ht, MapKept.run_getObj_map hb, hc, hr, Result.andThen, ← hr2, hz, Sem.run_pure]
  | some p =>
    simp at hr2
    simp [run_underlying ht, MapKept.run_getObj_map hb, hc, hr, Result.andThen, ← hr2, Sem.run_pure]
theorem run_mapUpdate_ptr (ht : Try.prog.underlying t = some (.map 72 e)) (h : PMap w m D) (hk : ∀ x ∈ D, AtCtx w x.1) (a : Addr) (ha : AtCtx w a) (hn : D.look a = none) (v : Value) :
    ∃ w', (Instr.mapUpdate t (.map (some m)) (.pointer (some a)) v).run Try.prog w = .ok () w' ∧ PMap w' m (D ++ [(a, v)]) ∧ w.grownBy w' (some m) ∧ w'.heap.size = w.heap.size := by
  obtain ⟨es, clock, hb, hf⟩ := h
  obtain ⟨r, hr, hr2⟩ := findKey_ptr w a ha es.toList D hf hk
  rw [hn] at hr2
  have hc := checkKey_ptr w a false
  have grown : ∀ o, w.grownBy { w with heap := w.heap.setIfInBounds m o } (some m) := fun o => ⟨rfl, rfl, rfl, by simp, fun j _ hj => by
    have : j ≠ m := fun e => hj (by rw [e])
    exact (MapKept.heap_set hb).2 j this⟩
  cases r with
  | some p => simp at hr2
  | none =>
    refine ⟨{ w with heap := w.heap.setIfInBounds m (.map (es.push { key := .pointer (some a), val := v, born := clock }) (clock + 1)) }, ?_, ⟨_, _, (MapKept.heap_set hb).1, ?_⟩, grown _, by simp⟩
    · simp [Instr.mapUpdate, run_underlying ht, MapKept.run_getObj_map hb, hc, hr, Result.andThen, MapKept.run_setObj_map _ hb]
    · rw [Array.toList_push]
      unfold PFits at hf ⊢
      rw [List.map_append, List.map_append, hf]
      rfl
end
end Go.Proofs.Ytcbabfndfikejaa
