/- In one: Which trees may be merged in a run, and which may be new. Plain Lean but for the names of the contract. What is new below a fine choice: at most what its tree asks for. Condition: the choices lie in memory. A run of merges, one after the other, with or without a cache. Condition: the choices lie in memory. The trees of a good table: how they are made, how great they are; no stack of a merge is longer. Plain Lean, no program in sight. The walk of ZZCombineCommonParents. Condition: the table is good, the numbers are nodes of it. The law FnCommon: its walk. No condition but that the table and the numbers read. The walk of ZZMergeAll, with and without a cache. Condition: the table is good, the numbers are nodes of it, their choices may be merged. The walk of impl.MergeAll. Condition: the table is good, the numbers are nodes of it, their choices may be merged. The law FnMergeAll: its walk. Condition: a bound for what is new (BoundA). -/
import Derived.Test.YtcbabfndfikejaaZ12
import Derived.Test.YtcbabfndfikejaaZ20
import Derived.Test.YtcbabfndfikejaaZ16
import Derived.Test.YtcbabfndfikejaaZ19
import Derived.Test.YtcbabfndfikejaaZ11
namespace Go.Proofs.Ytcbabfndfikejaa
/-- a merge of a list meets the next one -/
def OkL (P : Tr → Prop) (w : Bool) (x y : Tr) : Prop := ∃ l, l ≠ [] ∧ QL w (l ++ [y]) ∧ (∀ t ∈ l ++ [y], P t) ∧ x = Jl w l
/-- what is below is of the like -/
def DownP (P : Tr → Prop) : Prop := ∀ t, P t → ∀ s k a, (s, k, a) ∈ t.2.list → P (k, a)
theorem QL.left {w : Bool} {l : List Tr} {y : Tr} (h : QL w (l ++ [y])) : QL w l := h.sub (fun _ ht => List.mem_append_left _ ht) (by have := h.len; rw [List.length_append] at this; omega)
theorem QL.last {w : Bool} {l : List Tr} {y : Tr} (h : QL w (l ++ [y])) : Made 4 y ∧ Can y := ⟨h.made y (by simp), h.can y (by simp)⟩
theorem nil_tr {x : Tr} (h : Wf x.1 x.2) (hn : x.2.isNil = true) : x = (0, .nil) := Prod.ext (h.nil_zero.1 hn) (Tops.isNil_eq hn)
theorem Jl_nil {w : Bool} {l : List Tr} (h : QL w l) (hl : l ≠ []) (hn : (Jl w l).2.isNil = true) : ∃ t ∈ l, t.2.isNil = true := by
  refine Classical.byContradiction fun hc => ?_
  have := Jl_tops h hl (fun t ht => by
    cases hf : t.2.isNil
    · rfl
    · exact absurd ⟨t, ht, hf⟩ hc)
  rw [hn] at this; cases this
theorem okL {P : Tr → Prop} (hP : DownP P) (w : Bool) : OkM w (OkL P w) where
  kid := by
    rintro x y ⟨l, hl, hq, hpl, rfl⟩ s k a k' b h1 h2
    have hq1 := hq.left
    obtain ⟨hm, hw, _⟩ := Jl_spec hq1 hl
    have hn : ∀ t ∈ l, t.2.isNil = false := fun t ht => by
      cases hf : t.2.isNil
      · rfl
      · rw [Jl_leaf hq1 hl ht hf] at h1; cases h1
    have g1 := (get_mem hm.srt (s := s) (c := (k, a))).2 h1
    have g2 := (get_mem hq.last.1.srt (s := s) (c := (k', b))).2 h2
    rw [Jl_kid hq1 hl hn] at g1
    by_cases hk : kidsAt s l = []
    · rw [if_pos hk] at g1; cases g1
    · rw [if_neg hk] at g1
      have e : kidsAt s (l ++ [y]) = kidsAt s l ++ [(k', b)] := by
        unfold kidsAt
        rw [List.filterMap_append]
        congr 1
        rw [List.filterMap_cons, g2]; rfl
      refine ⟨kidsAt s l, hk, ?_, fun c hc => ?_, (Option.some.inj g1).symm⟩
      rotate_left
      · rw [← e] at hc
        obtain ⟨t, ht, hct⟩ := mem_kidsAt.1 hc
        exact hP t (hpl t ht) s c.1 c.2 ((get_mem (hq.made t ht).srt).1 hct)
      have := hq.kids s
      rwa [e] at this
  mix := by
    rintro x y ⟨l, hl, hq, hpl, rfl⟩ hw0
    have hq1 := hq.left
    obtain ⟨hm, hw, _⟩ := Jl_spec hq1 hl
    have hy := hq.last.1.wf
    have ap : ∀ t ∈ l, t.2.isNil = y.2.isNil := fun t ht => by
      rcases hq.ap with h | h
      · rw [hw0] at h; cases h
      · refine apart_nil (h.sub fun st hst => ?_)
        rcases List.mem_append.1 hst with h1 | h1
        · exact mem_stks.2 ⟨t, List.mem_append_left _ ht, h1⟩
        · exact mem_stks.2 ⟨y, by simp, h1⟩
    rw [← hw.1.1.nil_zero, ← hy.nil_zero]
    constructor
    · intro h
      obtain ⟨t, ht, h1⟩ := Jl_nil hq1 hl h
      rw [← ap t ht]; exact h1
    · intro h
      obtain ⟨t, ht⟩ := List.exists_mem_of_ne_nil l hl
      rw [Jl_leaf hq1 hl ht (by rw [ap t ht]; exact h)]; rfl
  two := by
    rintro x y ⟨l, hl, hq, hpl, rfl⟩
    exact ⟨(Jl_spec hq.left hl).2.1.2.1, hq.last.2.1⟩
/-- what may be new is a merge of a list and of one more, and neither of both -/
theorem rds_listP {P : Tr → Prop} {w : Bool} {t : Tr} (h : RDs w (OkL P w) t) : ∃ l y, l ≠ [] ∧ QL w (l ++ [y]) ∧ (∀ u ∈ l ++ [y], P u) ∧ t = Jl w (l ++ [y]) ∧ t ≠ Jl w l ∧ t ≠ y := by
  obtain ⟨x, y, ⟨l, hl, hq, hpl, rfl⟩, h1, h2, h3⟩ := h
  exact ⟨l, y, hl, hq, hpl, by rw [Jl_snoc hl]; exact h1, h2, h3⟩
theorem rds_list {P : Tr → Prop} {w : Bool} {t : Tr} (h : RDs w (OkL P w) t) : ∃ l y, l ≠ [] ∧ QL w (l ++ [y]) ∧ t = Jl w (l ++ [y]) ∧ t ≠ Jl w l ∧ t ≠ y := by
  obtain ⟨l, y, h1, h2, _, h3⟩ := rds_listP h
  exact ⟨l, y, h1, h2, h3⟩
/-- a leaf is not new -/
theorem rds_tops {P : Tr → Prop} {w : Bool} {t : Tr} (h : RDs w (OkL P w) t) : t.2.isNil = false := by
  obtain ⟨l, y, hl, hq, e, h2, h3⟩ := rds_list h
  have hne : l ++ [y] ≠ [] := by simp
  cases hn : t.2.isNil
  · rfl
  · exfalso
    have et : t = (0, .nil) := nil_tr (by rw [e]; exact (Jl_spec hq hne).2.1.1.1) hn
    obtain ⟨u, hu, hun⟩ := Jl_nil hq hne (by rw [← e]; exact hn)
    rcases List.mem_append.1 hu with hu | hu
    · exact h2 (by rw [Jl_leaf hq.left hl hu hun]; exact et)
    · rw [List.mem_singleton] at hu
      subst hu
      exact h3 (by rw [nil_tr hq.last.1.wf hun]; exact et)
/-- a tree with one stack is not new -/
theorem rds_thin {P : Tr → Prop} {w : Bool} {t : Tr} (h : RDs w (OkL P w) t) : (stkOf t.2).length ≠ 1 := by
  intro h1
  obtain ⟨l, y, hl, hq, e, h2, h3⟩ := rds_list h
  have hne : l ++ [y] ≠ [] := by simp
  obtain ⟨p, hp⟩ := List.length_eq_one_iff.1 h1
  have hs := Jl_spec hq hne
  have hsl := Jl_spec hq.left hl
  have wst : Ws t := by rw [e]; exact hs.2.1
  -- one of both has the stack
  have one : ∀ x : Tr, Ws x → (∀ st, hasW w (stkOf x.2) st → hasW w (stkOf t.2) st) → hasW w (stkOf x.2) p → t = x := fun x hx hsub hxp => by
    refine ws_ext (w := w) wst hx fun st => ⟨fun hst => ?_, hsub st⟩
    obtain ⟨q, hq1, hq2⟩ := hst
    rw [hp, List.mem_singleton] at hq1
    subst hq1
    obtain ⟨v, hv1, hv2⟩ := hxp
    refine ⟨v, hv1, ?_⟩
    rcases hv2 with rfl | ⟨hw, hv2⟩
    · exact hq2
    · rcases hq2 with rfl | ⟨_, hq2⟩
      · exact .inr ⟨hw, hv2⟩
      · exact .inr ⟨hw, hv2.trans hq2⟩
  have hpt : hasW w (stkOf t.2) p := hasW_self (by rw [hp]; exact List.mem_singleton.2 rfl)
  rw [e] at hpt
  obtain ⟨u, hu, hup⟩ := (hs.2.2 p).1 hpt
  rcases List.mem_append.1 hu with hu | hu
  · exact h2 (one _ hsl.2.1 (fun st hst => by
      obtain ⟨v, hv, hv2⟩ := (hsl.2.2 st).1 hst
      rw [e]; exact (hs.2.2 st).2 ⟨v, List.mem_append_left _ hv, hv2⟩) ((hsl.2.2 p).2 ⟨u, hu, hup⟩))
  · rw [List.mem_singleton] at hu
    subst hu
    exact h3 (one _ ⟨⟨hq.last.1.wf, hq.last.1.srt⟩, hq.last.2⟩ (fun st hst => by rw [e]; exact (hs.2.2 st).2 ⟨u, by simp, hst⟩) hup)
/-- a merge is not greater than both -/
theorem zip_size {m : Tr → Tr → Tr} : ∀ (f g : Tops), (∀ s k a k' b, (s, k, a) ∈ f.list → (s, k', b) ∈ g.list → (m (k, a) (k', b)).2.size ≤ a.size + b.size) → (zipT m f g).size ≤ f.size + g.size
  | .nil, g, _ => by rw [zipT]; exact Nat.le_add_left _ _
  | .cons s k a r, .nil, _ => by rw [zipT]; exact Nat.le_add_right _ _
  | .cons s k a r, .cons t k' b r', h => by
    rw [zipT]
    split
    · rename_i e
      subst e
      have h1 := h s k a k' b (List.mem_cons_self ..) (List.mem_cons_self ..)
      have h2 := zip_size (m := m) r r' (fun s k a k' b g1 g2 => h s k a k' b (List.mem_cons_of_mem _ g1) (List.mem_cons_of_mem _ g2))
      simp only [Tops.size]; omega
    · split
      · have h2 := zip_size (m := m) r (.cons t k' b r') (fun s k a k' b g1 g2 => h s k a k' b (List.mem_cons_of_mem _ g1) g2)
        simp only [Tops.size] at h2 ⊢; omega
      · have h2 := zip_size (m := m) (.cons s k a r) r' (fun s k a k' b g1 g2 => h s k a k' b g1 (List.mem_cons_of_mem _ g2))
        simp only [Tops.size] at h2 ⊢; omega
termination_by f g => f.len + g.len
decreasing_by all_goals (simp only [Tops.len]; omega)
theorem mrg_size (w : Bool) : ∀ (n : Nat) (x y : Tr), (mrg w n x y).2.size ≤ x.2.size + y.2.size
  | 0, x, y => Nat.le_add_right _ _
  | n + 1, (k, f), (k', g) => by
    rw [mrg]
    split
    · exact Nat.le_add_right _ _
    split
    · exact Nat.le_add_right _ _
    split
    · exact Nat.le_add_left _ _
    have hz : ∀ L z, (mkM L z).2 = z := fun L z => by unfold mkM; split <;> rfl
    rw [hz]
    exact zip_size f g (fun s k a k' b _ _ => mrg_size w n (k, a) (k', b))
theorem Jl_size {w : Bool} {B : Nat} : ∀ (l : List Tr) (x : Tr), (∀ t ∈ l, t.2.size ≤ B) → (jn w x l).2.size ≤ x.2.size + l.length * B
  | [], x, _ => Nat.le_add_right _ _
  | y :: l, x, h => by
    have h1 := Jl_size (w := w) l (mg w x y) (fun t ht => h t (List.mem_cons_of_mem _ ht))
    have h2 : (mg w x y).2.size ≤ x.2.size + y.2.size := mrg_size w _ x y
    have h3 := h y (List.mem_cons_self ..)
    show (jn w (mg w x y) l).2.size ≤ _
    rw [List.length_cons, Nat.add_mul, Nat.one_mul]
    omega
end Go.Proofs.Ytcbabfndfikejaa
namespace Go.Proofs.Ytcbabfndfikejaa
open Go.RowKit
theorem reach {RD : Tr → Prop} {w : World} {Z : Nat → Prop} {S E : List Addr} (r : Tr → Bool) (hr : ∀ t, RD t → r t = true) (hS : ClX w Z S) (hcl : ClX w Z (S ++ E)) (hF : Fine RD w Z E) :
    ∀ (n : Nat) (t : Tr) (e : Addr), t.2.size < n → e ∈ S ++ E → Rep w Z e t.1 t.2 → ∃ E' : List Addr, E'.length ≤ DD r n t ∧ e ∈ S ++ E' ∧ ClX w Z (S ++ E')
  | 0, _, _, h, _, _ => absurd h (by omega)
  | n + 1, t, e, hn, he, hrep => by
    by_cases hes : e ∈ S
    · exact ⟨[], Nat.zero_le _, by simpa using hes, by simpa using hS⟩
    have heE : e ∈ E := (List.mem_append.1 he).resolve_left hes
    obtain ⟨t', h1, h2, g, k, h, ss, qs, he', hsh, hsame⟩ := hF e heE
    have hu := hrep.noX.unique h1.noX
    have e1 : t = t' := Prod.ext hu.1 hu.2
    subst e1
    obtain ⟨g2, qs2, he2, hsh2, hsub⟩ := hrep.kids
    rw [he'] at he2
    cases he2
    obtain ⟨u1, u2, e3⟩ := hsh.unique hsh2
    subst e3
    have hkid : ∀ i q, qs[i]? = some q → q ∈ S ++ E := fun i q hq => hcl.cl.kid (hsh.move (X' := NoX) fun _ _ _ _ _ hg => ⟨hg, fun hx => hx⟩) (he' ▸ he) (List.mem_of_getElem? hq)
    have hlen := Subs.length _ _ hsub
    -- each tree below, once
    have all : ∀ L : List Tr, (∀ c ∈ L, ∃ s, (s, c.1, c.2) ∈ t.2.list) → ∃ E' : List Addr, E'.length ≤ (L.map (DD r n)).sum ∧ ClX w Z (S ++ E') ∧ ∀ c ∈ L, ∀ i s q, t.2.at? i = some (s, c.1, c.2) → qs[i]? = some q → q ∈ S ++ E' := fun L => by
      induction L with
      | nil => intro _; exact ⟨[], Nat.zero_le _, by simpa using hS, fun c hc => by cases hc⟩
      | cons c L ih =>
        intro hL
        obtain ⟨E1, l1, c1, m1⟩ := ih (fun c hc => hL c (List.mem_cons_of_mem _ hc))
        obtain ⟨s, hs⟩ := hL c (List.mem_cons_self ..)
        obtain ⟨i, hi⟩ := List.getElem?_of_mem hs
        rw [list_at] at hi
        have hil : i < t.2.len := by
          rw [← Tops.list_length]
          have := list_at t.2 i
          rw [hi] at this
          exact (List.getElem?_eq_some_iff.1 this).1
        have hq := List.getElem?_eq_getElem (show i < qs.length by omega)
        generalize qs[i] = q at hq
        obtain ⟨s1, k1, sub, a1, a2⟩ := Subs.at_ t.2 qs i q hsub hq
        rw [hi] at a1
        cases a1
        obtain ⟨E2, l2, m2, c2⟩ := reach r hr hS hcl hF n c q (by have := Tops.list_size hs; omega) (hkid i q hq) a2
        refine ⟨E1 ++ E2, by simp only [List.length_append, List.map_cons, List.sum_cons]; omega, ?_, fun c' hc' j s' q' hj hq' => ?_⟩
        · intro x hx
          rw [← List.append_assoc] at hx
          rcases List.mem_append.1 hx with hx | hx
          · obtain ⟨g, k', h', ss, rs, b1, b2, b3⟩ := c1 x hx
            exact ⟨g, k', h', ss, rs, b1, b2, fun y hy => by rw [← List.append_assoc]; exact List.mem_append_left _ (b3 y hy)⟩
          · obtain ⟨g, k', h', ss, rs, b1, b2, b3⟩ := c2 x (List.mem_append_right _ hx)
            exact ⟨g, k', h', ss, rs, b1, b2, fun y hy => (List.mem_append.1 (b3 y hy)).elim (fun h => List.mem_append_left _ h) (fun h => List.mem_append_right _ (List.mem_append_right _ h))⟩
        · rcases List.mem_cons.1 hc' with e | hc'
          · subst e
            have : qs[j]? = qs[i]? := hsame j i s' s c'.1 c'.2 hj hi
            rw [hq', hq] at this
            cases this
            exact (List.mem_append.1 m2).elim (fun h => List.mem_append_left _ h) (fun h => List.mem_append_right _ (List.mem_append_right _ h))
          · rw [← List.append_assoc]
            exact List.mem_append_left _ (m1 c' hc' j s' q' hj hq')
    obtain ⟨E1, l1, c1, m1⟩ := all (kidsD t.2) (fun c hc => mem_kidsD.1 hc)
    refine ⟨E1 ++ [e], ?_, by simp, ?_⟩
    · rw [DD, if_pos (hr _ h2), List.length_append, List.length_singleton]
      omega
    · rw [← List.append_assoc]
      refine c1.snoc ⟨qs, ⟨g, k, h, ss, he', hsh⟩, fun q hq => ?_⟩
      obtain ⟨i, hi⟩ := List.getElem?_of_mem hq
      obtain ⟨s1, k1, sub, a1, a2⟩ := Subs.at_ t.2 qs i q hsub hi
      have hm : (s1, k1, sub) ∈ t.2.list := by
        have := list_at t.2 i
        rw [a1] at this
        exact List.mem_of_getElem? this
      exact m1 (k1, sub) (mem_kidsD.2 ⟨s1, hm⟩) i s1 q a1 hi
end Go.Proofs.Ytcbabfndfikejaa
namespace Go.Proofs.Ytcbabfndfikejaa
open Go.RowKit
theorem PCM.imp {B : Nat} {Q Q' : (Nat → Prop) → World → Tr → Tr → Addr → Prop} {Z : Nat → Prop} {pa L : Nat} {Φ : Nat → Prop} {w : World} (h : PCM B Q Z pa L Φ w) (hQ : ∀ X Y q, Q Z w X Y q → Q' Z w X Y q) : PCM B Q' Z pa L Φ w := by
  obtain ⟨s, m, F, rows, size, h1, h2, h3, h4, h5, h6⟩ := h
  refine ⟨s, m, F, rows, size, h1, h2, h3, h4, fun r hr => ?_, h6⟩
  obtain ⟨g1, g2, g3, g4, g5, g6, g7⟩ := h5 r hr
  exact ⟨g1, g2, g3, g4, g5, g6, fun x hx => ⟨(g7 x hx).1, hQ _ _ _ (g7 x hx).2⟩⟩
/-- what a run keeps as a cache, whatever it is, by what is known of the choices -/
structure RunI (P : Tr → Prop) (w : Bool) (v : Value) (IS : List Addr → (Nat → Prop) → Nat → (Nat → Prop) → World → Prop) : Prop where
  mg : ∀ S n, MrgTo w (OkL P w) v (IS S) S n
  grow : ∀ {S E : List Addr} {Z : Nat → Prop} {L : Nat} {Φ : Nat → Prop} {W : World}, IS S Z L Φ W → ClX W Z (S ++ E) → IS (S ++ E) Z L Φ W
theorem runU {P : Tr → Prop} (hP : DownP P) (w : Bool) : RunI P w (.pointer none) (fun _ => IU) := ⟨fun S n => ftU_all w (OkL P w) (okL hP w) S n, fun h _ => h⟩
theorem runC {P : Tr → Prop} (hP : DownP P) (w : Bool) (B pa : Nat) : RunI P w (.pointer (some ⟨pa, 0, none⟩)) (fun S Z => PCM B (Qm w (OkL P w) S) Z pa) :=
  ⟨fun S n => ftC_all B pa w (OkL P w) (okL hP w) S n, fun {S E Z L Φ W} h hc => h.imp fun X Y q ⟨E0, h1, h2, h3, h4⟩ => ⟨E0, h1, by
    rcases List.mem_append.1 h2 with h | h
    · exact List.mem_append_left _ (List.mem_append_left _ h)
    · exact List.mem_append_right _ h, by
    have := hc.union h3
    rwa [← List.append_assoc] at this, h4⟩⟩
/-- How far a run has come: what the choices of l are merged to lies at p. -/
def RunAt (P : Tr → Prop) (w : Bool) (IS : List Addr → (Nat → Prop) → Nat → (Nat → Prop) → World → Prop) (S : List Addr) (l : List Tr) (L : Nat) (W0 : World) (p : Addr) (W : World) : Prop :=
  ∃ (E : List Addr) (Φ : Nat → Prop), Fine (RDs w (OkL P w)) W NoX E ∧ p ∈ S ++ E ∧ ClX W NoX S ∧ ClX W NoX (S ++ E) ∧ Rep W NoX p (Jl w l).1 (Jl w l).2 ∧ IS (S ++ E) NoX L Φ W ∧ (∀ j, Φ j → W0.heap.size ≤ j) ∧ Below W0.heap.size W0 W
section
variable {P : Tr → Prop} {w : Bool} {v : Value} {IS : List Addr → (Nat → Prop) → Nat → (Nat → Prop) → World → Prop} {S : List Addr} {l : List Tr} {L : Nat} {W0 W : World} {p : Addr}
/-- one more is merged -/
theorem RunAt.step (hR : RunI P w v IS) (h : RunAt P w IS S l L W0 p W) {y : Tr} {q : Addr} (hl : l ≠ []) (hq : QL w (l ++ [y])) (hpl : ∀ t ∈ l ++ [y], P t) (hlen : l.length ≤ 16) (hqS : q ∈ S) (hrq : Rep W NoX q y.1 y.2) (hL : L + (Jl w l).2.size + 1 ≤ 1000000000) :
    Calls Try.prog 61 #[.pointer (some p), .pointer (some q), .bool w, v] W (fun e W' => ∃ r, e = .returned (.pointer (some r)) ∧ RunAt P w IS S (l ++ [y]) (L + (Jl w l).2.size + 1) W0 r W' ∧ Below W0.heap.size W W') := by
  obtain ⟨E, Φ, h1, h2, h3, h4, h5, h6, h7, h8⟩ := h
  have hm := (Jl_spec hq.left hl).1
  refine (hR.mg (S ++ E) ((Jl w l).2.size + 1) (Jl w l) y p q W L Φ NoX (fun g hg => hg.elim) (Nat.lt_succ_self _) h6 h5 hrq (hm.mono (by omega)) (hq.last.1.mono (by decide)) ⟨l, hl, hq, hpl, rfl⟩ h2 (List.mem_append_left _ hqS) h4 hL).mono ?_
  rintro e W' ⟨r, E', Φ', rfl, g0, g1, g2, g3, g4, g5, g6, g7⟩
  have gb : Below W0.heap.size W W' := g6.below h7 h8.size
  rw [List.append_assoc] at g1 g2
  refine ⟨r, rfl, ⟨E ++ E', Φ', (h1.stay g7).append g0, g1, h3.stay g7, g2, by rw [Jl_snoc hl]; exact g3, ?_, fun j hj => ?_, h8.trans gb⟩, gb⟩
  · rw [← List.append_assoc]
    exact hR.grow g4 (by rw [List.append_assoc]; exact g2)
  · rcases g5 j hj with h | h
    · exact h7 j h
    · exact Nat.le_trans h8.size h
/-- nothing else has been done -/
theorem RunAt.keep (h : RunAt P w IS S l L W0 p W) (hI : ∀ S, CacheI (IS S)) {W' : World} (hb : Below W.heap.size W W') : RunAt P w IS S l L W0 p W' := by
  obtain ⟨E, Φ, h1, h2, h3, h4, h5, h6, h7, h8⟩ := h
  have hs := Stay.of_below hb
  exact ⟨E, Φ, h1.stay hs, h2, h3.stay hs, h4.stay hs, h5.stay hs, (hI _).below h6 hb, h7, below_trans h8 hb⟩
/-- what is handed back: at most so many choices as its tree asks for -/
theorem RunAt.out (h : RunAt P w IS S l L W0 p W) (r : Tr → Bool) (hr : ∀ t, RDs w (OkL P w) t → r t = true) : ∃ E', E'.length ≤ DZ r (Jl w l) ∧ p ∈ S ++ E' ∧ Cl W (S ++ E') ∧ Rep W NoX p (Jl w l).1 (Jl w l).2 ∧ Below W0.heap.size W0 W := by
  obtain ⟨E, Φ, h1, h2, h3, h4, h5, h6, h7, h8⟩ := h
  obtain ⟨E', a1, a2, a3⟩ := reach r hr h3 h4 h1 _ (Jl w l) p (Nat.lt_succ_self _) h2 h5
  exact ⟨E', a1, a2, a3.cl, h5, h8⟩
end
end Go.Proofs.Ytcbabfndfikejaa
namespace Go.Proofs.Ytcbabfndfikejaa
open Go.RowKit
/-- what is below a node of a table is a node ahead of it -/
theorem tr_kids {ns : List Nd} (hg : GoodT ns) {i : Nat} {s : Int} {k : Nat} {a : Tops} (h : (s, k, a) ∈ (tr ns i).2.list) : ∃ u, u < i ∧ u < ns.length ∧ (k, a) = tr ns u := by
  rcases Nat.lt_or_ge i ns.length with hi | hi
  · have hnd := List.getElem?_eq_getElem hi
    generalize ns[i] = nd at hnd
    obtain ⟨hpl, hsl, hpar⟩ := hg.tab.2 i nd hnd
    rw [tr_eq hg.tab hnd] at h
    obtain ⟨j, hj⟩ := List.getElem?_of_mem h
    have hjl : j < nd.ss.length := by
      rw [← mkTops_len (built ns) nd.ps nd.ss hpl, ← Tops.list_length]
      exact (List.getElem?_eq_some_iff.1 hj).1
    obtain ⟨p, hp, hpa⟩ := hpar j hjl
    rw [list_at, mkTops_at hp (List.getElem?_eq_getElem hjl)] at hj
    cases hj
    exact ⟨p, hpa, by omega, rfl⟩
  · have : tr ns i = (0, .nil) := by
      unfold tr
      rw [List.getD_eq_getElem?_getD, List.getElem?_eq_none (by rw [built_length]; exact hi)]
      rfl
    rw [this] at h
    cases h
/-- a tree of the table -/
def InT (ns : List Nd) (t : Tr) : Prop := ∃ i, i < ns.length ∧ tr ns i = t
theorem inT_kid {ns : List Nd} (hg : GoodT ns) {t : Tr} (h : InT ns t) {s : Int} {k : Nat} {a : Tops} (hm : (s, k, a) ∈ t.2.list) : InT ns (k, a) := by
  obtain ⟨i, _, rfl⟩ := h
  obtain ⟨u, _, hu, e⟩ := tr_kids hg hm
  exact ⟨u, hu, e.symm⟩
theorem tr_len {ns : List Nd} (hg : GoodT ns) (i : Nat) : (tr ns i).2.len ≤ 4 := by
  rcases Nat.lt_or_ge i ns.length with hi | hi
  · have hnd := List.getElem?_eq_getElem hi
    generalize ns[i] = nd at hnd
    obtain ⟨h1, h2, _⟩ := hg.2 i nd hi hnd
    rw [tr_eq hg.tab hnd]
    simp only
    rw [mkTops_len _ _ _ h1]
    exact h2
  · have : tr ns i = (0, .nil) := by
      unfold tr
      rw [List.getD_eq_getElem?_getD, List.getElem?_eq_none (by rw [built_length]; exact hi)]
      rfl
    rw [this]
    exact Nat.zero_le _
theorem cap_of {c : Nat} : ∀ f : Tops, (∀ s k a, (s, k, a) ∈ f.list → a.len ≤ c ∧ a.cap c) → f.cap c
  | .nil, _ => trivial
  | .cons s k a r, h => ⟨(h s k a (List.mem_cons_self ..)).1, (h s k a (List.mem_cons_self ..)).2, cap_of r (fun s k a hm => h s k a (List.mem_cons_of_mem _ hm))⟩
theorem tr_cap {ns : List Nd} (hg : GoodT ns) : ∀ (n i : Nat), i < n → (tr ns i).2.cap 4
  | 0, _, h => absurd h (by omega)
  | n + 1, i, hi => cap_of _ (fun s k a h => by
    obtain ⟨u, hu, _, e⟩ := tr_kids hg h
    have e1 : a = (tr ns u).2 := congrArg Prod.snd e
    rw [e1]
    exact ⟨tr_len hg u, tr_cap hg n u (by omega)⟩)
theorem tr_made {ns : List Nd} (hg : GoodT ns) {i : Nat} (hi : i < ns.length) : Made 4 (tr ns i) := ⟨tr_wf hg (i + 1) i (Nat.lt_succ_self _) hi, tr_srt hg (i + 1) i (Nat.lt_succ_self _) hi, tr_len hg i, tr_cap hg (i + 1) i (Nat.lt_succ_self _)⟩
theorem size_of {B : Nat} : ∀ f : Tops, (∀ s k a, (s, k, a) ∈ f.list → a.size ≤ B) → f.size ≤ f.len * (B + 1)
  | .nil, _ => Nat.zero_le _
  | .cons s k a r, h => by
    have h1 := h s k a (List.mem_cons_self ..)
    have h2 := size_of r (fun s k a hm => h s k a (List.mem_cons_of_mem _ hm))
    simp only [Tops.size, Tops.len, Nat.add_mul, Nat.one_mul]
    omega
theorem tr_size {ns : List Nd} (hg : GoodT ns) : ∀ (n i : Nat), i < n → (tr ns i).2.size ≤ 5 ^ n
  | 0, _, h => absurd h (by omega)
  | n + 1, i, hi => by
    have h1 := size_of (B := 5 ^ n) (tr ns i).2 (fun s k a h => by
      obtain ⟨u, hu, _, e⟩ := tr_kids hg h
      have e1 : a = (tr ns u).2 := congrArg Prod.snd e
      rw [e1]
      exact tr_size hg n u (by omega))
    have h2 := tr_len hg i
    have h3 : (tr ns i).2.len * (5 ^ n + 1) ≤ 4 * (5 ^ n + 1) := Nat.mul_le_mul_right _ h2
    rcases Nat.eq_zero_or_pos i with h0 | h0
    · subst h0
      have : (tr ns 0).2.len = 0 := by
        cases hf : (tr ns 0).2 with
        | nil => rfl
        | cons s k a r =>
          obtain ⟨u, hu, _⟩ := tr_kids hg (i := 0) (s := s) (k := k) (a := a) (by rw [hf]; exact List.mem_cons_self ..)
          omega
      rw [this, Nat.zero_mul] at h1
      exact Nat.le_trans h1 (Nat.zero_le _)
    · have h5 : 5 ≤ 5 ^ n := by
        obtain ⟨m, rfl⟩ : ∃ m, n = m + 1 := ⟨n - 1, by omega⟩
        rw [Nat.pow_succ]
        have := Nat.pow_pos (n := m) (show 0 < 5 by decide)
        omega
      rw [Nat.pow_succ]
      omega
/-! ### no stack of a merge is longer -/
theorem zip_mem {m : Tr → Tr → Tr} : ∀ (f g : Tops) (st : List Int), st ∈ (zipT m f g).stk → st ∈ f.stk ∨ st ∈ g.stk ∨ ∃ s k a k' b t, (s, k, a) ∈ f.list ∧ (s, k', b) ∈ g.list ∧ st = s :: t ∧ t ∈ stkOf (m (k, a) (k', b)).2
  | .nil, g, st, h => by rw [zipT] at h; exact .inr (.inl h)
  | .cons s k a r, .nil, st, h => by rw [zipT] at h; exact .inl h
  | .cons s k a r, .cons t k' b r', st, h => by
    rw [zipT] at h
    split at h
    · rename_i e
      subst e
      rw [stk_cons] at h
      rcases List.mem_append.1 h with h | h
      · obtain ⟨u, hu, rfl⟩ := List.mem_map.1 h
        exact .inr (.inr ⟨s, k, a, k', b, u, List.mem_cons_self .., List.mem_cons_self .., rfl, hu⟩)
      · rcases zip_mem r r' st h with h | h | ⟨s1, k1, a1, k2, b1, t1, h1, h2, h3⟩
        · exact .inl (by rw [stk_cons]; exact List.mem_append_right _ h)
        · exact .inr (.inl (by rw [stk_cons]; exact List.mem_append_right _ h))
        · exact .inr (.inr ⟨s1, k1, a1, k2, b1, t1, List.mem_cons_of_mem _ h1, List.mem_cons_of_mem _ h2, h3⟩)
    · split at h
      · rw [stk_cons] at h
        rcases List.mem_append.1 h with h | h
        · exact .inl (by rw [stk_cons]; exact List.mem_append_left _ h)
        · rcases zip_mem r (.cons t k' b r') st h with h | h | ⟨s1, k1, a1, k2, b1, t1, h1, h2, h3⟩
          · exact .inl (by rw [stk_cons]; exact List.mem_append_right _ h)
          · exact .inr (.inl h)
          · exact .inr (.inr ⟨s1, k1, a1, k2, b1, t1, List.mem_cons_of_mem _ h1, h2, h3⟩)
      · rw [stk_cons] at h
        rcases List.mem_append.1 h with h | h
        · exact .inr (.inl (by rw [stk_cons]; exact List.mem_append_left _ h))
        · rcases zip_mem (.cons s k a r) r' st h with h | h | ⟨s1, k1, a1, k2, b1, t1, h1, h2, h3⟩
          · exact .inl h
          · exact .inr (.inl (by rw [stk_cons]; exact List.mem_append_right _ h))
          · exact .inr (.inr ⟨s1, k1, a1, k2, b1, t1, h1, List.mem_cons_of_mem _ h2, h3⟩)
termination_by f g => f.len + g.len
decreasing_by all_goals (simp only [Tops.len]; omega)
theorem mrg_depth (w : Bool) : ∀ (n D : Nat) (x y : Tr), (∀ t ∈ stkOf x.2, t.length ≤ D) → (∀ t ∈ stkOf y.2, t.length ≤ D) → ∀ t ∈ stkOf (mrg w n x y).2, t.length ≤ D
  | 0, D, x, y, hx, _, t, ht => hx t ht
  | n + 1, D, (k, f), (k', g), hx, hy, t, ht => by
    rw [mrg] at ht
    split at ht
    · exact hx t ht
    split at ht
    · exact hx t ht
    split at ht
    · exact hy t ht
    have hz : ∀ L z, (mkM L z).2 = z := fun L z => by unfold mkM; split <;> rfl
    rw [hz] at ht
    cases hn : (zipT (mrg w n) f g).isNil
    · simp only at hx hy ht
      rw [stkOf_len _ hn] at ht
      have sub : ∀ {f : Tops} {t : List Int}, t ∈ f.stk → t ∈ stkOf f := fun {f t} h => by
        cases hf : f.isNil
        · rw [stkOf_len f hf]; exact h
        · rw [Tops.isNil_eq hf] at h; cases h
      rcases zip_mem f g t ht with h | h | ⟨s1, k1, a1, k2, b1, t1, h1, h2, rfl, h3⟩
      · exact hx t (sub h)
      · exact hy t (sub h)
      · have d1 : ∀ u ∈ stkOf a1, u.length ≤ D - 1 := fun u hu => by
          have := hx _ (sub (mem_stk h1 hu)); simp at this; omega
        have d2 : ∀ u ∈ stkOf b1, u.length ≤ D - 1 := fun u hu => by
          have := hy _ (sub (mem_stk h2 hu)); simp at this; omega
        have hD : 1 ≤ D := by
          obtain ⟨u, hu⟩ := List.exists_mem_of_length_pos (stkOf_pos a1)
          have := hx _ (sub (mem_stk h1 hu)); simp at this; omega
        have := mrg_depth w n (D - 1) (k1, a1) (k2, b1) d1 d2 t1 h3
        simp; omega
    · rw [Tops.isNil_eq hn, stkOf_nil] at ht
      simp at ht
      subst ht
      exact Nat.zero_le _
theorem can_of : ∀ f : Tops, (∀ s k a, (s, k, a) ∈ f.list → Can (k, a)) → f.can
  | .nil, _ => trivial
  | .cons s k a r, h => ⟨(h s k a (List.mem_cons_self ..)).1, (h s k a (List.mem_cons_self ..)).2, can_of r (fun s k a hm => h s k a (List.mem_cons_of_mem _ hm))⟩
theorem tr_can {ns : List Nd} (hg : GoodT ns) : ∀ (n i : Nat), i < n → Can (tr ns i)
  | 0, _, h => absurd h (by omega)
  | n + 1, i, hi => by
    refine ⟨fun h2 => ?_, can_of _ (fun s k a h => by
      obtain ⟨u, hu, _, e⟩ := tr_kids hg h
      rw [e]; exact tr_can hg n u (by omega))⟩
    rcases Nat.lt_or_ge i ns.length with hil | hil
    · have hnd := List.getElem?_eq_getElem hil
      generalize ns[i] = nd at hnd
      obtain ⟨hpl, _, _⟩ := hg.tab.2 i nd hnd
      rw [tr_eq hg.tab hnd] at h2 ⊢
      simp only at h2 ⊢
      rw [mkTops_len _ _ _ hpl]
      have h3 : kindOf nd.ss.length = 2 := h2
      unfold kindOf at h3
      split at h3
      · cases h3
      · split at h3
        · cases h3
        · omega
    · have : tr ns i = (0, .nil) := by
        unfold tr
        rw [List.getD_eq_getElem?_getD, List.getElem?_eq_none (by rw [built_length]; exact hil)]
        rfl
      rw [this] at h2; cases h2
theorem Jl_count {w : Bool} : ∀ (l : List Tr) (x : Tr) (c : Nat), Made c x → (∀ t ∈ l, Made 4 t) → c + 4 * l.length ≤ 1000 → (stkOf (jn w x l).2).length ≤ (stkOf x.2).length + (stks l).length
  | [], x, _, _, _, _ => Nat.le_add_right _ _
  | y :: l, x, c, hx, hl, hc => by
    simp only [List.length_cons] at hc
    have hy := hl y (List.mem_cons_self ..)
    have h1 := mrg_count w (x.2.size + 1) x y hx.wf hy.wf
    have h2 := Jl_count (w := w) l (mg w x y) (c + 4) (mrg_made w (by omega) _ x y hx hy) (fun t ht => hl t (List.mem_cons_of_mem _ ht)) (by omega)
    show (stkOf (jn w (mg w x y) l).2).length ≤ _
    have h3 : (stks (y :: l)).length = (stkOf y.2).length + (stks l).length := by unfold stks; rw [List.flatMap_cons, List.length_append]
    have h4 : (stkOf (mg w x y).2).length ≤ (stkOf x.2).length + (stkOf y.2).length := h1
    omega
theorem Jl_deep {w : Bool} {D : Nat} : ∀ (l : List Tr) (x : Tr), (∀ t ∈ stkOf x.2, t.length ≤ D) → (∀ t ∈ stks l, t.length ≤ D) → ∀ t ∈ stkOf (jn w x l).2, t.length ≤ D
  | [], _, hx, _ => hx
  | y :: l, x, hx, hl => Jl_deep (w := w) l (mg w x y) (mrg_depth w _ D x y hx (fun t ht => hl t (mem_stks.2 ⟨y, List.mem_cons_self .., ht⟩))) (fun t ht => hl t (by
    obtain ⟨z, hz, h⟩ := mem_stks.1 ht
    exact mem_stks.2 ⟨z, List.mem_cons_of_mem _ hz, h⟩))
end Go.Proofs.Ytcbabfndfikejaa
namespace Go.Proofs.Ytcbabfndfikejaa
open Go.RowKit
set_option linter.unusedSimpArgs false
def natInts (vn : List Nat) : List Int := List.map (fun v : Nat => (v : Int)) vn
end Go.Proofs.Ytcbabfndfikejaa
namespace Go.Proofs.Ytcbabfndfikejaa
open Go.RowKit
set_option linter.unusedSimpArgs false
def AllInPost (n : Nat) (vs : List Int) (w : World) (e : Ending) (w' : World) : Prop := ∃ r : Bool, e = .returned (.bool r) ∧ (r = true → (∀ v ∈ vs, 0 ≤ v ∧ v < (n : Int)) ∧ vs.length ≤ 10) ∧ w = w'
set_option maxHeartbeats 1000000 in
theorem specAllIn_any (A : Option Addr) (n c : Nat) (A' : Option Addr) (c' : Nat) (vs : List Int) (w : World) (hv : Reads w w.heap.size 1 A' vs.length (ints vs)) (hm : vs.length ≤ 2147483647) :
    Calls Try.prog 24 #[.slice A n c, .slice A' vs.length c'] w (AllInPost n vs w) := by
  have HV := Lib.hid hv
  clear hv
  go_enter Try.func24, Try.ntmps24
  go_wp2_with fail
  go_loop [9] (fun i => ∃ k : Nat, k ≤ vs.length ∧ i = .int .i64 k ∧ Hid (∀ j, j < k → ∀ v, vs[j]? = some v → 0 ≤ v ∧ v < (n : Int))) (fun i => vs.length - (intOf i).toNat)
  case atStart => exact ⟨0, Nat.zero_le _, rfl, Lib.hid (fun j hj => absurd hj (by omega))⟩
  case round =>
    obtain ⟨k, hk, rfl, HM⟩ := hrel
    by_cases hlt : k < vs.length
    · obtain ⟨b, off, u, rfl, _, hu, hc⟩ := HV.out.at1 hlt
      obtain ⟨x, hx, rfl⟩ := ints_at hu
      have HX := Lib.hid hx
      clear hu hx
      go_wp2_with fail
      refine (specIn_any A n c x w).mono ?_
      rintro e w4 ⟨rfl, rfl⟩
      by_cases hin : 0 ≤ x ∧ x < n
      · rw [in_yes hin]
        have HIN := Lib.hid hin
        clear hin
        go_wp2_with fail
        go_round
        case rel => exact ⟨k + 1, by omega, by go_num, Lib.hid (fun j hj v hv => by
          rcases Nat.lt_or_ge j k with h1 | h1
          · exact HM.out j h1 v hv
          · obtain rfl : j = k := by omega
            rw [HX.out] at hv; cases hv; exact HIN.out)⟩
        case measure => simp [intOf]; omega
      · rw [in_no hin]
        clear hin
        go_wp2_with fail
        go_ret
        exact ⟨_, rfl, fun h => by simp at h, rfl⟩
    · have HALL := Lib.hid (show ∀ v ∈ vs, 0 ≤ v ∧ v < (n : Int) from fun v hv => by
        obtain ⟨j, hj⟩ := List.getElem?_of_mem hv
        have := (List.getElem?_eq_some_iff.1 hj).1
        exact HM.out j (by omega) v hj)
      by_cases h10 : vs.length ≤ 10
      · have HT := Lib.hid h10
        go_wp2_with fail
        go_ret
        exact ⟨true, by simp; omega, fun _ => ⟨HALL.out, HT.out⟩, rfl⟩
      · go_wp2_with fail
        go_ret
        exact ⟨false, by simp; omega, (fun h => by cases h), rfl⟩
theorem nat_of_ints {vs : List Int} {n : Nat} (h : ∀ v ∈ vs, 0 ≤ v ∧ v < (n : Int)) : ∃ vn : List Nat, vs = natInts vn ∧ ∀ v ∈ vn, v < n := by
  induction vs with
  | nil => exact ⟨[], rfl, fun v hv => by cases hv⟩
  | cons a t ih =>
    obtain ⟨vn, h1, h2⟩ := ih (fun v hv => h v (List.mem_cons_of_mem _ hv))
    have ha := h a (List.mem_cons_self ..)
    refine ⟨a.toNat :: vn, ?_, fun v hv => ?_⟩
    · simp only [natInts, List.map_cons]
      rw [Int.toNat_of_nonneg ha.1, h1]; rfl
    · rcases List.mem_cons.1 hv with rfl | hv
      · omega
      · exact h2 v hv
theorem natInts_len (vn : List Nat) : (natInts vn).length = vn.length := by simp [natInts]
theorem natInts_at {vn : List Nat} {j : Nat} {u : Value} (h : (ints (natInts vn))[j]? = some u) : ∃ v, vn[j]? = some v ∧ u = .int .i64 (v : Int) := by
  obtain ⟨x, hx, rfl⟩ := ints_at h
  simp only [natInts, List.getElem?_map, Option.map_eq_some_iff] at hx
  obtain ⟨v, hv, rfl⟩ := hx
  exact ⟨v, hv, rfl⟩
end Go.Proofs.Ytcbabfndfikejaa
namespace Go.Proofs.Ytcbabfndfikejaa
open Go.RowKit
set_option linter.unusedSimpArgs false
/-- the cache of a run without one -/
theorem cacheS_U : ∀ _S : List Addr, CacheI IU := fun _ => cacheU
theorem cacheS_C (P : Tr → Prop) (w : Bool) (B pa : Nat) : ∀ S : List Addr, CacheI (fun Z => PCM B (Qm w (OkL P w) S) Z pa) := fun S => cacheC B w (OkL P w) S pa
theorem take_map_snoc {ns : List Nd} {vn : List Nat} {j v : Nat} (hv : vn[j]? = some v) : (vn.take (j + 1)).map (tr ns) = (vn.take j).map (tr ns) ++ [tr ns v] := by
  rw [List.take_add_one, List.map_append, hv]; rfl
set_option maxRecDepth 20000 in
set_option maxHeartbeats 4000000 in
theorem zzMergeAll_any (A : Option Addr) (c : Nat) (ns : List Nd) (A' : Option Addr) (c' : Nat) (vn : List Nat) (wild cached : Bool) (N : Nat) (w : World) (ht : Tbl w w.heap.size A ns) (hg : GoodT ns) (hv : Reads w w.heap.size 1 A' vn.length (ints (natInts vn))) (hin : ∀ v ∈ vn, v < ns.length) (h0 : 0 < vn.length) (hm : vn.length ≤ 10) (hcap : vn.length ≤ c')
    (hq : QL wild (vn.map (tr ns))) (hsz : ∀ i, (tr ns i).2.size ≤ 9765625) (hN : N ≤ 1000) (hD : ∀ r : Tr → Bool, (∀ t, RDs wild (OkL (InT ns) wild) t → r t = true) → (∀ t, r t = true → RDs wild (OkL (InT ns) wild) t) → ns.length + DZ r (Jl wild (vn.map (tr ns))) ≤ N) :
    Calls Try.prog 46 #[.slice A ns.length c, .slice A' vn.length c', .bool wild, .bool cached] w (TabN N (Jl wild (vn.map (tr ns))).2 w) := by
  have HV := Lib.hid hv
  have HIN := Lib.hid hin
  have HQ0 := Lib.hid hq
  have HDD := Lib.hid hD
  have HSZ := Lib.hid hsz
  have hnl := hg.1
  have hne : vn.map (tr ns) ≠ [] := fun e => by rw [List.map_eq_nil_iff] at e; rw [e] at h0; exact absurd h0 (by decide)
  have HSP := Lib.hid (Jl_spec hq hne)
  have HPRE := Lib.hid (show ∀ j, j ≤ vn.length → QL wild ((vn.take j).map (tr ns)) from fun j hj => hq.sub (fun t ht => by
    obtain ⟨v, hv, rfl⟩ := List.mem_map.1 ht
    exact List.mem_map.2 ⟨v, List.mem_of_mem_take hv, rfl⟩) (by rw [List.length_map, List.length_take]; omega))
  have HJS := Lib.hid (show ∀ j, 0 < j → j ≤ vn.length → (Jl wild ((vn.take j).map (tr ns))).2.size ≤ 97656250 from fun j hj hjl => by
    have hl : ((vn.take j).map (tr ns)).length ≤ 10 := by rw [List.length_map, List.length_take]; omega
    have hb : ∀ t ∈ (vn.take j).map (tr ns), t.2.size ≤ 9765625 := fun t ht => by
      obtain ⟨v, _, rfl⟩ := List.mem_map.1 ht
      exact hsz v
    cases hl0 : (vn.take j).map (tr ns) with
    | nil => exact Nat.zero_le _
    | cons x l =>
      rw [hl0] at hl hb
      have h1 := Jl_size (w := wild) (B := 9765625) l x (fun t ht => hb t (List.mem_cons_of_mem _ ht))
      have h2 := hb x (List.mem_cons_self ..)
      have h3 : l.length * 9765625 ≤ 9 * 9765625 := Nat.mul_le_mul_right _ (by simp only [List.length_cons] at hl; omega)
      show (jn wild x l).2.size ≤ _
      omega)
  have HGT := Lib.hid hg
  have HC := Lib.hid (zzBuild2_any A c ns w ht hg)
  clear ht hv hin hq hD hsz
  go_enter Try.func46, Try.ntmps46
  go_wp2_with fail
  refine HC.out.mono ?_
  rintro e w1 ⟨A1, c1, qs, rfl, hown, hreps, hb1⟩
  have hql : qs.length = ns.length := by have := hown.1; simpa [ptrs] using this
  have hreps' : Reps2 w1 NoX (built ns) qs := ⟨fun i q hi => by
    obtain ⟨kf, h1, h2⟩ := hreps.1 i q hi
    exact ⟨kf, h1, h2.move (fun g cs e _ hx hg => ⟨hg, fun h => h⟩)⟩, fun q hq => (hreps.2 q hq).move (fun g cs e _ hx hg => ⟨hg, fun h => h⟩)⟩
  have HRD := Lib.hid (Reads.of_own hown)
  have HB1 := Lib.hid hb1
  have HV1 := Lib.hid (HV.out.ext hb1)
  have HCL := Lib.hid (show ClX w1 NoX qs from cl_of_reps hreps')
  have HAT := Lib.hid (show ∀ (i : Nat) (q : Addr), qs[i]? = some q → Rep w1 NoX q (tr ns i).1 (tr ns i).2 from fun i q hi => by
    obtain ⟨kf, h1, h2⟩ := hreps'.1 i q hi
    have e1 : tr ns i = kf := by unfold tr; rw [List.getD_eq_getElem?_getD, h1]; rfl
    rw [e1]; exact h2)
  have HQL := Lib.hid hql
  clear hown hreps hreps' hb1 HC hql
  -- the first one
  obtain ⟨b, off, u, rfl, _, hu, hc⟩ := HV1.out.at1 h0
  obtain ⟨v0, hv0, rfl⟩ := natInts_at hu
  have hvn := HIN.out v0 (List.mem_of_getElem? hv0)
  obtain ⟨b2, off2, u2, rfl, _, hu2, hc2⟩ := HRD.out.at1 hvn
  obtain ⟨q0, hq0, rfl⟩ := ptrs_at hu2
  have hvn' : (v0 : Int) < (ns.length : Int) := by omega
  have h0' : (0 : Int) < (vn.length : Int) := by omega
  have h1' : (1 : Int) ≤ (vn.length : Int) := by omega
  have HT1 := Lib.hid (show (vn.take 1).map (tr ns) = [tr ns v0] from by
    have := take_map_snoc (ns := ns) hv0
    simpa using this)
  have HQ00 := Lib.hid hq0
  obtain ⟨m, hm1⟩ : ∃ m, vn.length = m + 1 := ⟨vn.length - 1, by omega⟩
  have HM := Lib.hid hm1
  clear hu hv0 hu2 hq0
  cases cached with
  | false =>
    have HRUN := Lib.hid (runU (P := InT ns) (fun _ ht _ _ _ hm => inT_kid HGT.out ht hm) wild)
    have HCI := Lib.hid (cacheS_U)
    have HRA := Lib.hid (show RunAt (InT ns) wild (fun _ => IU) qs ((vn.take (0 + 1)).map (tr ns)) 0 w1 q0 w1 from by
      rw [HT1.out]
      have hs := Stay.of_below (Below.refl _ w1)
      exact ⟨[], fun _ => False, Fine.nil, by simpa using List.mem_of_getElem? HQ00.out, HCL.out.stay hs, by simpa using HCL.out.stay hs, (HAT.out v0 q0 HQ00.out).stay hs, by simpa using (show IU NoX 0 (fun _ => False) w1 from fun _ h => h), (fun _ h => h.elim), (Below.refl _ w1)⟩)
    have hca := cell_bel hc (Below.refl _ w1)
    rw [Nat.add_zero] at hca
    have hcb := cell_bel hc2 (Below.refl _ w1)
    have HCB := Lib.hid hc2
    clear hc hc2
    by_cases hc1 : c' = 1
    · have hm0 : m = 0 := by omega
      go_wp2_with fail
      go_loopw [11, 27] (fun v i wr => ∃ (j L : Nat) (p : Addr), j ≤ m ∧ i = .int .i64 j ∧ v = .pointer (some p) ∧ Hid (RunAt (InT ns) wild (fun _ => IU) qs ((vn.take (j + 1)).map (tr ns)) L w1 p wr) ∧ Hid (L ≤ j * 97656251)) (fun _ i _ => m - (intOf i).toNat)
      case atStart => exact ⟨0, 0, q0, Nat.zero_le _, rfl, rfl, HRA, Lib.hid (Nat.zero_le _)⟩
      case round =>
        obtain ⟨j, L, p, hj, rfl, rfl, HR, HL⟩ := hrel
        by_cases hlt : j < m
        · exact absurd hlt (by omega)
        · have hje : j = m := by omega
          subst hje
          have HT := Lib.hid (show (vn.take (j + 1)).map (tr ns) = vn.map (tr ns) from by rw [← HM.out, List.take_length])
          have hRD : ∃ r : Tr → Bool, (∀ t, RDs wild (OkL (InT ns) wild) t → r t = true) ∧ (∀ t, r t = true → RDs wild (OkL (InT ns) wild) t) := ⟨fun t => @decide (RDs wild (OkL (InT ns) wild) t) (Classical.propDecidable _), fun t h => @decide_eq_true _ (Classical.propDecidable _) h, fun t h => @of_decide_eq_true _ (Classical.propDecidable _) h⟩
          obtain ⟨r, hr1, hr2⟩ := hRD
          have hout := HR.out.out r hr1
          have hbd := HDD.out r hr1 hr2
          rw [HT.out] at hout
          obtain ⟨E', e1, e2, e3, e4, e5⟩ := hout
          have HZ := Lib.hid (zzTable_any (qs ++ E') p _ _ wr e4 HSP.out.2.1.1.1 HSP.out.1.srt e2 e3 (by rw [List.length_append]; have := HQL.out; omega))
          have HLEN := Lib.hid (show (qs ++ E').length ≤ N from by rw [List.length_append]; have := HQL.out; omega)
          have HBW := Lib.hid (below_trans HB1.out e5)
          clear e1 e2 e3 e4 e5 hr1 hr2 hbd HR HT
          go_wp2_with fail
          refine HZ.out.mono ?_
          rintro e w3 ⟨A3, c3, ms, rfl, htb, hgd, h0, hle, htr, hb3⟩
          have HFIN := Lib.hid (show TabN N (Jl wild (vn.map (tr ns))).2 w (.returned (.slice A3 ms.length c3)) w3 from ⟨A3, c3, ms, rfl, htb, hgd, h0, Nat.le_trans hle HLEN.out, htr, below_trans HBW.out hb3⟩)
          clear htb hgd htr hb3 HZ
          go_wp2_with fail
          go_ret
          exact HFIN.out
    · skip
      go_wp2_with fail
      go_loopw [11, 27] (fun v i wr => ∃ (j L : Nat) (p : Addr), j ≤ m ∧ i = .int .i64 j ∧ v = .pointer (some p) ∧ Hid (RunAt (InT ns) wild (fun _ => IU) qs ((vn.take (j + 1)).map (tr ns)) L w1 p wr) ∧ Hid (L ≤ j * 97656251)) (fun _ i _ => m - (intOf i).toNat)
      case atStart => exact ⟨0, 0, q0, Nat.zero_le _, rfl, rfl, HRA, Lib.hid (Nat.zero_le _)⟩
      case round =>
        obtain ⟨j, L, p, hj, rfl, rfl, HR, HL⟩ := hrel
        by_cases hlt : j < m
        · have HBW := Lib.hid (show Below w1.heap.size w1 wr from by obtain ⟨_, _, _, _, _, _, _, _, _, h⟩ := HR.out; exact h)
          obtain ⟨b3, off3, u3, e3, _, hu3, hc3⟩ := (HV1.out.ext HBW.out).at1 (show 1 + j < vn.length by omega)
          cases e3
          obtain ⟨v, hv, rfl⟩ := natInts_at hu3
          have hvl := HIN.out v (List.mem_of_getElem? hv)
          obtain ⟨b4, off4, u4, e4, _, hu4, hc4⟩ := HRD.out.at1 hvl
          cases e4
          obtain ⟨q, hq, rfl⟩ := ptrs_at hu4
          have hvl' : (v : Int) < (ns.length : Int) := by omega
          have hlt' : (j : Int) < (m : Int) := by omega
          rw [show off + (1 + j) = off + 1 + j by omega] at hc3
          have hc4' := cell_bel hc4 HBW.out
          have HC4 := Lib.hid hc4
          have hv' : vn[j + 1]? = some v := by rw [← hv]; congr 1; omega
          have HSN := Lib.hid (take_map_snoc (ns := ns) hv')
          have HSTEP := Lib.hid (show Calls Try.prog 61 #[.pointer (some p), .pointer (some q), .bool wild, (.pointer none)] wr (fun e W' => ∃ r, e = .returned (.pointer (some r)) ∧ RunAt (InT ns) wild (fun _ => IU) qs ((vn.take (j + 1 + 1)).map (tr ns)) (L + (Jl wild ((vn.take (j + 1)).map (tr ns))).2.size + 1) w1 r W' ∧ Below w1.heap.size wr W') from by
            have hjs := HJS.out (j + 1) (Nat.succ_pos _) (by omega)
            rw [HSN.out]
            exact HR.out.step HRUN.out (y := tr ns v) (fun e => by rw [List.map_eq_nil_iff] at e; have := congrArg List.length e; rw [List.length_take, List.length_nil] at this; omega) (by rw [← HSN.out]; exact HPRE.out (j + 1 + 1) (by omega)) (by
              rw [← HSN.out]
              intro t ht
              obtain ⟨k, hk, rfl⟩ := List.mem_map.1 ht
              exact ⟨k, HIN.out k (List.mem_of_mem_take hk), rfl⟩) (by rw [List.length_map, List.length_take]; omega) (List.mem_of_getElem? hq) ((HAT.out v q hq).stay (Stay.of_below HBW.out)) (by have := HL.out; have h2 : j * 97656251 ≤ 9 * 97656251 := Nat.mul_le_mul_right _ (by omega); omega))
          have HJ1 := Lib.hid (HJS.out (j + 1) (Nat.succ_pos _) (by omega))
          clear hu3 hu4 hq hv hv' hc4
          go_wp2_with fail
          refine HSTEP.out.mono ?_
          rintro e w4 ⟨r, rfl, hr, hb4⟩
          have HR4 := Lib.hid hr
          clear hr hb4 HSTEP hc4' hca hcb
          go_wp2_with fail
          go_roundw
          case rel => exact ⟨j + 1, _, r, by omega, by go_num, rfl, HR4, Lib.hid (by have := HL.out; have := HJ1.out; omega)⟩
          case measure => simp [intOf]; omega
        · have hje : j = m := by omega
          subst hje
          have HT := Lib.hid (show (vn.take (j + 1)).map (tr ns) = vn.map (tr ns) from by rw [← HM.out, List.take_length])
          have hRD : ∃ r : Tr → Bool, (∀ t, RDs wild (OkL (InT ns) wild) t → r t = true) ∧ (∀ t, r t = true → RDs wild (OkL (InT ns) wild) t) := ⟨fun t => @decide (RDs wild (OkL (InT ns) wild) t) (Classical.propDecidable _), fun t h => @decide_eq_true _ (Classical.propDecidable _) h, fun t h => @of_decide_eq_true _ (Classical.propDecidable _) h⟩
          obtain ⟨r, hr1, hr2⟩ := hRD
          have hout := HR.out.out r hr1
          have hbd := HDD.out r hr1 hr2
          rw [HT.out] at hout
          obtain ⟨E', e1, e2, e3, e4, e5⟩ := hout
          have HZ := Lib.hid (zzTable_any (qs ++ E') p _ _ wr e4 HSP.out.2.1.1.1 HSP.out.1.srt e2 e3 (by rw [List.length_append]; have := HQL.out; omega))
          have HLEN := Lib.hid (show (qs ++ E').length ≤ N from by rw [List.length_append]; have := HQL.out; omega)
          have HBW := Lib.hid (below_trans HB1.out e5)
          clear e1 e2 e3 e4 e5 hr1 hr2 hbd HR HT
          go_wp2_with fail
          refine HZ.out.mono ?_
          rintro e w3 ⟨A3, c3, ms, rfl, htb, hgd, h0, hle, htr, hb3⟩
          have HFIN := Lib.hid (show TabN N (Jl wild (vn.map (tr ns))).2 w (.returned (.slice A3 ms.length c3)) w3 from ⟨A3, c3, ms, rfl, htb, hgd, h0, Nat.le_trans hle HLEN.out, htr, below_trans HBW.out hb3⟩)
          clear htb hgd htr hb3 HZ
          go_wp2_with fail
          go_ret
          exact HFIN.out
  | true =>
    have HNP := Lib.hid (fun d st => newPC_any (Qm wild (OkL (InT ns) wild) qs) NoX d st w1)
    go_wp2_with fail
    refine (HNP.out _ _).mono ?_
    rintro e wq ⟨pa, rfl, hpc, hbq⟩
    have HBQ := Lib.hid hbq
    have HPC := Lib.hid hpc
    clear hpc hbq HNP
    have HRUN := Lib.hid (runC (P := InT ns) (fun _ ht _ _ _ hm => inT_kid HGT.out ht hm) wild w1.heap.size pa)
    have HCI := Lib.hid (cacheS_C (InT ns) wild w1.heap.size pa)
    have HRA := Lib.hid (show RunAt (InT ns) wild (fun S Z => PCM w1.heap.size (Qm wild (OkL (InT ns) wild) S) Z pa) qs ((vn.take (0 + 1)).map (tr ns)) 0 w1 q0 wq from by
      rw [HT1.out]
      have hs := Stay.of_below HBQ.out
      exact ⟨[], Mid w1 wq, Fine.nil, by simpa using List.mem_of_getElem? HQ00.out, HCL.out.stay hs, by simpa using HCL.out.stay hs, (HAT.out v0 q0 HQ00.out).stay hs, by simpa using HPC.out, (fun j hj => hj.1), HBQ.out⟩)
    have hca := cell_bel hc HBQ.out
    rw [Nat.add_zero] at hca
    have hcb := cell_bel hc2 HBQ.out
    have HCB := Lib.hid hc2
    clear hc hc2
    by_cases hc1 : c' = 1
    · have hm0 : m = 0 := by omega
      go_wp2_with fail
      go_loopw [11, 27] (fun v i wr => ∃ (j L : Nat) (p : Addr), j ≤ m ∧ i = .int .i64 j ∧ v = .pointer (some p) ∧ Hid (RunAt (InT ns) wild (fun S Z => PCM w1.heap.size (Qm wild (OkL (InT ns) wild) S) Z pa) qs ((vn.take (j + 1)).map (tr ns)) L w1 p wr) ∧ Hid (L ≤ j * 97656251)) (fun _ i _ => m - (intOf i).toNat)
      case atStart => exact ⟨0, 0, q0, Nat.zero_le _, rfl, rfl, HRA, Lib.hid (Nat.zero_le _)⟩
      case round =>
        obtain ⟨j, L, p, hj, rfl, rfl, HR, HL⟩ := hrel
        by_cases hlt : j < m
        · exact absurd hlt (by omega)
        · have hje : j = m := by omega
          subst hje
          have HT := Lib.hid (show (vn.take (j + 1)).map (tr ns) = vn.map (tr ns) from by rw [← HM.out, List.take_length])
          have hRD : ∃ r : Tr → Bool, (∀ t, RDs wild (OkL (InT ns) wild) t → r t = true) ∧ (∀ t, r t = true → RDs wild (OkL (InT ns) wild) t) := ⟨fun t => @decide (RDs wild (OkL (InT ns) wild) t) (Classical.propDecidable _), fun t h => @decide_eq_true _ (Classical.propDecidable _) h, fun t h => @of_decide_eq_true _ (Classical.propDecidable _) h⟩
          obtain ⟨r, hr1, hr2⟩ := hRD
          have hout := HR.out.out r hr1
          have hbd := HDD.out r hr1 hr2
          rw [HT.out] at hout
          obtain ⟨E', e1, e2, e3, e4, e5⟩ := hout
          have HZ := Lib.hid (zzTable_any (qs ++ E') p _ _ wr e4 HSP.out.2.1.1.1 HSP.out.1.srt e2 e3 (by rw [List.length_append]; have := HQL.out; omega))
          have HLEN := Lib.hid (show (qs ++ E').length ≤ N from by rw [List.length_append]; have := HQL.out; omega)
          have HBW := Lib.hid (below_trans HB1.out e5)
          clear e1 e2 e3 e4 e5 hr1 hr2 hbd HR HT
          go_wp2_with fail
          refine HZ.out.mono ?_
          rintro e w3 ⟨A3, c3, ms, rfl, htb, hgd, h0, hle, htr, hb3⟩
          have HFIN := Lib.hid (show TabN N (Jl wild (vn.map (tr ns))).2 w (.returned (.slice A3 ms.length c3)) w3 from ⟨A3, c3, ms, rfl, htb, hgd, h0, Nat.le_trans hle HLEN.out, htr, below_trans HBW.out hb3⟩)
          clear htb hgd htr hb3 HZ
          go_wp2_with fail
          go_ret
          exact HFIN.out
    · skip
      go_wp2_with fail
      go_loopw [11, 27] (fun v i wr => ∃ (j L : Nat) (p : Addr), j ≤ m ∧ i = .int .i64 j ∧ v = .pointer (some p) ∧ Hid (RunAt (InT ns) wild (fun S Z => PCM w1.heap.size (Qm wild (OkL (InT ns) wild) S) Z pa) qs ((vn.take (j + 1)).map (tr ns)) L w1 p wr) ∧ Hid (L ≤ j * 97656251)) (fun _ i _ => m - (intOf i).toNat)
      case atStart => exact ⟨0, 0, q0, Nat.zero_le _, rfl, rfl, HRA, Lib.hid (Nat.zero_le _)⟩
      case round =>
        obtain ⟨j, L, p, hj, rfl, rfl, HR, HL⟩ := hrel
        by_cases hlt : j < m
        · have HBW := Lib.hid (show Below w1.heap.size w1 wr from by obtain ⟨_, _, _, _, _, _, _, _, _, h⟩ := HR.out; exact h)
          obtain ⟨b3, off3, u3, e3, _, hu3, hc3⟩ := (HV1.out.ext HBW.out).at1 (show 1 + j < vn.length by omega)
          cases e3
          obtain ⟨v, hv, rfl⟩ := natInts_at hu3
          have hvl := HIN.out v (List.mem_of_getElem? hv)
          obtain ⟨b4, off4, u4, e4, _, hu4, hc4⟩ := HRD.out.at1 hvl
          cases e4
          obtain ⟨q, hq, rfl⟩ := ptrs_at hu4
          have hvl' : (v : Int) < (ns.length : Int) := by omega
          have hlt' : (j : Int) < (m : Int) := by omega
          rw [show off + (1 + j) = off + 1 + j by omega] at hc3
          have hc4' := cell_bel hc4 HBW.out
          have HC4 := Lib.hid hc4
          have hv' : vn[j + 1]? = some v := by rw [← hv]; congr 1; omega
          have HSN := Lib.hid (take_map_snoc (ns := ns) hv')
          have HSTEP := Lib.hid (show Calls Try.prog 61 #[.pointer (some p), .pointer (some q), .bool wild, (.pointer (some ⟨pa, 0, none⟩))] wr (fun e W' => ∃ r, e = .returned (.pointer (some r)) ∧ RunAt (InT ns) wild (fun S Z => PCM w1.heap.size (Qm wild (OkL (InT ns) wild) S) Z pa) qs ((vn.take (j + 1 + 1)).map (tr ns)) (L + (Jl wild ((vn.take (j + 1)).map (tr ns))).2.size + 1) w1 r W' ∧ Below w1.heap.size wr W') from by
            have hjs := HJS.out (j + 1) (Nat.succ_pos _) (by omega)
            rw [HSN.out]
            exact HR.out.step HRUN.out (y := tr ns v) (fun e => by rw [List.map_eq_nil_iff] at e; have := congrArg List.length e; rw [List.length_take, List.length_nil] at this; omega) (by rw [← HSN.out]; exact HPRE.out (j + 1 + 1) (by omega)) (by
              rw [← HSN.out]
              intro t ht
              obtain ⟨k, hk, rfl⟩ := List.mem_map.1 ht
              exact ⟨k, HIN.out k (List.mem_of_mem_take hk), rfl⟩) (by rw [List.length_map, List.length_take]; omega) (List.mem_of_getElem? hq) ((HAT.out v q hq).stay (Stay.of_below HBW.out)) (by have := HL.out; have h2 : j * 97656251 ≤ 9 * 97656251 := Nat.mul_le_mul_right _ (by omega); omega))
          have HJ1 := Lib.hid (HJS.out (j + 1) (Nat.succ_pos _) (by omega))
          clear hu3 hu4 hq hv hv' hc4
          go_wp2_with fail
          refine HSTEP.out.mono ?_
          rintro e w4 ⟨r, rfl, hr, hb4⟩
          have HR4 := Lib.hid hr
          clear hr hb4 HSTEP hc4' hca hcb
          go_wp2_with fail
          go_roundw
          case rel => exact ⟨j + 1, _, r, by omega, by go_num, rfl, HR4, Lib.hid (by have := HL.out; have := HJ1.out; omega)⟩
          case measure => simp [intOf]; omega
        · have hje : j = m := by omega
          subst hje
          have HT := Lib.hid (show (vn.take (j + 1)).map (tr ns) = vn.map (tr ns) from by rw [← HM.out, List.take_length])
          have hRD : ∃ r : Tr → Bool, (∀ t, RDs wild (OkL (InT ns) wild) t → r t = true) ∧ (∀ t, r t = true → RDs wild (OkL (InT ns) wild) t) := ⟨fun t => @decide (RDs wild (OkL (InT ns) wild) t) (Classical.propDecidable _), fun t h => @decide_eq_true _ (Classical.propDecidable _) h, fun t h => @of_decide_eq_true _ (Classical.propDecidable _) h⟩
          obtain ⟨r, hr1, hr2⟩ := hRD
          have hout := HR.out.out r hr1
          have hbd := HDD.out r hr1 hr2
          rw [HT.out] at hout
          obtain ⟨E', e1, e2, e3, e4, e5⟩ := hout
          have HZ := Lib.hid (zzTable_any (qs ++ E') p _ _ wr e4 HSP.out.2.1.1.1 HSP.out.1.srt e2 e3 (by rw [List.length_append]; have := HQL.out; omega))
          have HLEN := Lib.hid (show (qs ++ E').length ≤ N from by rw [List.length_append]; have := HQL.out; omega)
          have HBW := Lib.hid (below_trans HB1.out e5)
          clear e1 e2 e3 e4 e5 hr1 hr2 hbd HR HT
          go_wp2_with fail
          refine HZ.out.mono ?_
          rintro e w3 ⟨A3, c3, ms, rfl, htb, hgd, h0, hle, htr, hb3⟩
          have HFIN := Lib.hid (show TabN N (Jl wild (vn.map (tr ns))).2 w (.returned (.slice A3 ms.length c3)) w3 from ⟨A3, c3, ms, rfl, htb, hgd, h0, Nat.le_trans hle HLEN.out, htr, below_trans HBW.out hb3⟩)
          clear htb hgd htr hb3 HZ
          go_wp2_with fail
          go_ret
          exact HFIN.out
end Go.Proofs.Ytcbabfndfikejaa
namespace Go.Proofs.Ytcbabfndfikejaa
open Go.RowKit
set_option linter.unusedSimpArgs false
theorem own_cap {w : World} {base : Nat} {e : TypeId} {size n : Nat} {v : Value} {xs : List Value} (h : w.ownsRow base e size v n xs) : ∃ A c, v = .slice A n c ∧ n ≤ c ∧ Reads w w.heap.size size A n xs := by
  have h' := h
  rcases h.2 with ⟨rfl, rfl⟩ | ⟨g, cap, cur, rfl, _, _, hc, _⟩
  · exact ⟨none, 0, rfl, Nat.le_refl _, Reads.of_own h'⟩
  · exact ⟨_, _, rfl, hc, Reads.of_own h'⟩
set_option maxRecDepth 20000 in
set_option maxHeartbeats 1000000 in
theorem implMergeAll_any (A : Option Addr) (c : Nat) (ns : List Nd) (A' : Option Addr) (c' : Nat) (vn : List Nat) (wild cached : Bool) (N : Nat) (w : World) (ht : Tbl w w.heap.size A ns) (hg : GoodT ns) (hv : Reads w w.heap.size 1 A' vn.length (ints (natInts vn))) (hin : ∀ v ∈ vn, v < ns.length) (h0 : 0 < vn.length) (hm : vn.length ≤ 10)
    (hq : QL wild (vn.map (tr ns))) (hsz : ∀ i, (tr ns i).2.size ≤ 9765625) (hN : N ≤ 1000) (hD : ∀ r : Tr → Bool, (∀ t, RDs wild (OkL (InT ns) wild) t → r t = true) → (∀ t, r t = true → RDs wild (OkL (InT ns) wild) t) → ns.length + DZ r (Jl wild (vn.map (tr ns))) ≤ N) :
    Calls Try.prog 33 #[.slice A ns.length c, .slice A' vn.length c', .bool wild, .bool cached] w (TabN N (Jl wild (vn.map (tr ns))).2 w) := by
  obtain ⟨i0, hi0, hz0, hz1, hz2⟩ := info_parts int_info
  have HT := Lib.hid ht
  have HG := Lib.hid hg
  have HV := Lib.hid hv
  have HIN := Lib.hid hin
  have HQ := Lib.hid hq
  have HSZ := Lib.hid hsz
  have HD := Lib.hid hD
  clear ht hg hv hin hq hsz hD
  go_enter Try.func33, Try.ntmps33
  go_wp2_with fail
  refine (implNodes_any A c ns w HT.out HG.out).mono ?_
  rintro e w1 ⟨v, rfl, hown, hb1⟩
  obtain ⟨A1, c1, rfl, ht1⟩ := hown.tbl
  have HT1 := Lib.hid ht1
  have HB1 := Lib.hid hb1
  have HV1 := Lib.hid (HV.out.ext hb1)
  clear hown ht1 hb1
  go_wp2_with (first
    | (at_builtin
       refine wpList_append_any _ rfl (.tmp 11) (.tmp 12) _ rfl w1.heap.size 3 i0 _ 1 8 Try.underlying22 hi0 hz0 hz1 hz2 rfl (by omega) (.slice (some ⟨w1.heap.size, 0, none⟩) 0 0) 0 [] rfl (World.ownsRow_made w1 #[] 0 (Nat.le_refl _) (by simp [maxLen]) rfl) _ A' vn.length c' (ints (natInts vn)) rfl (HV1.out.ext (below_alloc' (Below.refl _ _) _)) (ints_one _) (by simp only [maxLen]; omega) (by omega) (by simp) ?_
       intro v1 w2 hown1 hgr1 _))
  have hb2 : Below w1.heap.size w1 w2 := ((Below.refl _ _).alloc (Nat.le_refl _) _).grown hgr1 (by simp) (by simp [Value.ownBlock])
  rw [Nat.zero_add, List.nil_append] at hown1
  obtain ⟨A3, c3, rfl, hcap, hr3⟩ := own_cap hown1
  have HR3 := Lib.hid hr3
  have HB2 := Lib.hid (below_trans HB1.out hb2)
  have HT2 := Lib.hid (HT1.out.ext hb2)
  have HCAP := Lib.hid hcap
  clear hown1 hgr1 hb2 hr3 hcap
  go_wp2_with fail
  refine (zzMergeAll_any A1 c1 ns A3 c3 vn wild cached N w2 HT2.out HG.out HR3.out HIN.out h0 hm HCAP.out HQ.out HSZ.out hN HD.out).mono ?_
  rintro e w3 ⟨A4, c4, ms, rfl, htb, hgd, h03, hle, htr, hb3⟩
  have HB3 := Lib.hid (below_trans HB2.out hb3)
  have HTB := Lib.hid htb
  have HGD := Lib.hid hgd
  have HTR := Lib.hid htr
  clear hb3 htb hgd htr
  go_wp2_with fail
  refine (back_tab A4 c4 N ms w3 HTB.out HGD.out (by omega) hle).mono ?_
  rintro e w4 ⟨A5, c5, rfl, ht5, hb5⟩
  have HFIN := Lib.hid (show TabN N (Jl wild (vn.map (tr ns))).2 w (.returned (.slice A5 ms.length c5)) w4 from ⟨A5, c5, ms, rfl, ht5, HGD.out, h03, hle, HTR.out, below_trans HB3.out hb5⟩)
  clear ht5 hb5
  go_wp2_with fail
  go_ret
  exact HFIN.out
end Go.Proofs.Ytcbabfndfikejaa
namespace Go.Proofs.Ytcbabfndfikejaa
open Go.RowKit
set_option linter.unusedSimpArgs false
/-- what a run asks for is at most 200 choices -/
def BoundA : Prop := ∀ (ns : List Nd) (vn : List Nat) (wild : Bool), GoodT ns → (∀ v ∈ vn, v < ns.length) → 0 < vn.length → vn.length ≤ 10 → QL wild (vn.map (tr ns)) → (stks (vn.map (tr ns))).length ≤ 120 →
  ∀ r : Tr → Bool, (∀ t, RDs wild (OkL (InT ns) wild) t → r t = true) → (∀ t, r t = true → RDs wild (OkL (InT ns) wild) t) → ns.length + DZ r (Jl wild (vn.map (tr ns))) ≤ 200
theorem hasW_stks {w : Bool} {l : List Tr} {st : List Int} : hasW w (stks l) st ↔ ∃ t ∈ l, hasW w (stkOf t.2) st := by
  unfold hasW
  constructor
  · rintro ⟨p, hp, h⟩
    obtain ⟨t, ht, h1⟩ := mem_stks.1 hp
    exact ⟨t, ht, p, h1, h⟩
  · rintro ⟨t, ht, p, h1, h⟩
    exact ⟨p, mem_stks.2 ⟨t, ht, h1⟩, h⟩
theorem grown_stay {w w' : World} {base size n : Nat} {v : Value} {xs : List Value} (h : w.ownsRow base 22 size v n xs) (hg : w.grownBy w' v.ownBlock) : Stay w w' := (Chg.of_grown hg).stay fun g cs e hc he hx => by
  rcases h.2 with ⟨rfl, _⟩ | ⟨g2, cap, cur, rfl, _, h2, _⟩
  · simp [Value.ownBlock] at hx
  · simp only [Value.ownBlock, Option.some.injEq] at hx
    subst hx
    rw [hc] at h2
    cases h2
    simp [ctxTy] at he
/-- the stacks of the first j choices -/
def stT (ns : List Nd) (vn : List Nat) (j : Nat) : List (List Int) := stks ((vn.take j).map (tr ns))
theorem stT_succ {ns : List Nd} {vn : List Nat} {j v : Nat} (h : vn[j]? = some v) : stT ns vn (j + 1) = stT ns vn j ++ stkOf (tr ns v).2 := by
  unfold stT
  rw [take_map_snoc h]
  unfold stks
  rw [List.flatMap_append]
  simp
/-- what is known when j choices have been read -/
def WantJ (ns : List Nd) (vn : List Nat) (j : Nat) (base : Nat) (w : World) (v : Value) : Prop := OwnStk w base v (stT ns vn j) ∧ (∀ i, i < j → ∀ k, vn[i]? = some k → (stkOf (tr ns k).2).length ≤ 120)
theorem stT_len {ns : List Nd} {vn : List Nat} : ∀ (j : Nat), j ≤ vn.length → (∀ i, i < j → ∀ k, vn[i]? = some k → (stkOf (tr ns k).2).length ≤ 120) → (stT ns vn j).length ≤ j * 120
  | 0, _, _ => by simp [stT, stks]
  | j + 1, hj, h => by
    have hv := List.getElem?_eq_getElem (show j < vn.length by omega)
    have h1 := stT_len j (by omega) (fun i hi => h i (by omega))
    have h2 := h j (Nat.lt_succ_self j) _ hv
    rw [stT_succ hv, List.length_append]
    omega
set_option maxRecDepth 20000 in
set_option maxHeartbeats 8000000 in
theorem lawMergeAll_any (HBA : BoundA) (A : Option Addr) (c : Nat) (ns : List Nd) (A' : Option Addr) (c' : Nat) (vs : List Int) (wild cached : Bool) (w : World) (ht : Tbl w w.heap.size A ns) (hm : ns.length ≤ 9223372036854775807) (hv : Reads w w.heap.size 1 A' vs.length (ints vs)) (hmv : vs.length ≤ 9223372036854775807) :
    Calls Try.prog 13 #[.slice A ns.length c, .slice A' vs.length c', .bool wild, .bool cached] w (Yes w) := by
  have HT := Lib.hid ht
  have HV := Lib.hid hv
  have HBB := Lib.hid HBA
  obtain ⟨i0, hi0, iz0, iz1, iz2⟩ := info_parts info22
  clear ht hv HBA
  go_enter Try.func13, Try.ntmps13
  go_wp2_with fail
  refine (zzFits1_any A c ns w HT.out hm).mono ?_
  rintro e w1 ⟨r, rfl, hr, hb1⟩
  cases r
  · go_wp2_with fail
    go_ret
    exact ⟨rfl, hb1⟩
  have hm' := hr rfl
  clear hr
  have HB1 := Lib.hid hb1
  clear hb1
  by_cases hvl : vs.length ≤ 2147483647
  · go_wp2_with fail
    refine (lawsNodes_tbl A c ns w1 (HT.out.ext HB1.out) hm').mono ?_
    rintro e w2 ⟨A2, c2, rfl, ht2, hb2⟩
    have HT2 := Lib.hid ht2
    have HB2 := Lib.hid (below_trans HB1.out hb2)
    clear ht2 hb2
    go_wp2_with fail
    refine (specGood_any A2 c2 ns w2 HT2.out hm').mono ?_
    rintro e w3 ⟨r, rfl, hr, hb3⟩
    have HB3 := Lib.hid (below_trans HB2.out hb3)
    have HT3 := Lib.hid (HT2.out.ext hb3)
    clear hb3
    cases r
    · go_wp2_with fail
      go_ret
      exact ⟨rfl, HB3.out⟩
    have HG := Lib.hid (hr rfl)
    clear hr
    go_wp2_with fail
    refine (specAllIn_any A2 ns.length c2 A' c' vs w3 (HV.out.ext HB3.out) hvl).mono ?_
    rintro e w4 ⟨r, rfl, hr, rfl⟩
    cases r
    · go_wp2_with fail
      go_ret
      exact ⟨rfl, HB3.out⟩
    obtain ⟨hin, h10⟩ := hr rfl
    obtain ⟨vn, hvn, hin'⟩ := nat_of_ints hin
    clear hr hin hvl hmv
    subst hvn
    rw [natInts_len] at *
    have HIN := Lib.hid hin'
    clear hin'
    by_cases h0 : vn.length = 0
    · have hz : ((vn.length : Int) == 0) = true := by rw [beq_iff_eq]; omega
      have hz2 : (vn.length : Int) = 0 := by omega
      clear h0
      go_wp2_with fail
      go_ret
      exact ⟨rfl, HB3.out⟩
    · have hz : ((vn.length : Int) == 0) = false := by rw [beq_eq_false_iff_ne]; omega
      have hz2 : ¬ (vn.length : Int) = 0 := by omega
      have h0' : 0 < vn.length := by omega
      clear h0
      have HV3 := Lib.hid (HV.out.ext HB3.out)
      have HW0 := Lib.hid (show WantJ ns vn 0 w3.heap.size (w3.alloc (.cells #[] 22)) (.slice (some ⟨w3.heap.size, 0, none⟩) 0 0) from ⟨⟨[], World.ownsRow_lit w3 #[] 0 (Nat.le_refl _) (by simp [maxLen]) rfl, rfl, fun j u hu => by simp at hu⟩, fun i hi => absurd hi (Nat.not_lt_zero _)⟩)
      go_wp2_with fail
      go_loopw [10, 44] (fun v i wr => ∃ j : Nat, j ≤ vn.length ∧ i = .int .i64 j ∧ Hid (WantJ ns vn j w3.heap.size wr v) ∧ Hid (Below w3.heap.size w3 wr)) (fun _ i _ => vn.length - (intOf i).toNat)
      case atStart => exact ⟨0, Nat.zero_le _, rfl, HW0, Lib.hid ((Below.refl _ _).alloc (Nat.le_refl _) _)⟩
      case round =>
        obtain ⟨j, hj, rfl, HW, HBR⟩ := hrel
        by_cases hlt : j < vn.length
        · obtain ⟨b, off, u, rfl, _, hu, hc⟩ := (HV3.out.ext HBR.out).at1 hlt
          obtain ⟨k, hk, rfl⟩ := natInts_at hu
          have hkl := HIN.out k (List.mem_of_getElem? hk)
          have HK := Lib.hid hk
          have HTR := Lib.hid (HT3.out.ext HBR.out)
          have hlt' : (j : Int) < (vn.length : Int) := by omega
          have HST := Lib.hid (stacks_any k ns A2 c2 wr HG.out.tab HTR.out hkl)
          have hl := stT_len j hj HW.out.2
          clear hu hk
          go_wp2_with fail
          refine HST.out.mono ?_
          rintro e w5 ⟨v5, X, rfl, hX, hown5, hb5⟩
          clear HST
          have HB35 := Lib.hid (below_trans' HBR.out HBR.out.size hb5)
          by_cases h120 : (stkOf (tr ns k).2).length ≤ 120
          · rw [decide_eq_true h120]
            rw [if_pos h120] at hX
            subst hX
            obtain ⟨A5, c5, rfl, us5, hus5, hrx5⟩ := hown5.stks
            obtain ⟨us, hown, hrows⟩ := HW.out.1
            have HOWN := Lib.hid (ownsRow_ext hown hb5)
            have HROWS := Lib.hid (hrows.stay (Stay.of_below hb5))
            have HUS5 := Lib.hid hus5
            have HRX5 := Lib.hid hrx5
            have H20 := Lib.hid h120
            clear hown hrows hus5 hrx5 hown5 hb5 h120
            go_wp2_with (first
              | (at_builtin
                 (refine wpList_append_bel rfl (.tmp 56) (.tmp 57) _ rfl w3 w3.heap.size 22 i0 _ 1 24 Try.underlying42 hi0 iz0 iz1 iz2 rfl (by omega) _ (stT ns vn j).length us rfl HOWN.out _ A5 (stkOf (tr ns k).2).length c5 us5 rfl HUS5.out HRX5.out.one (by have := H20.out; omega) (by omega) HB35.out HB35.out.size ?_)
                 intro v6 w6 hown6 hb6 hg6 _))
            have HSX := Lib.hid (grown_stay HOWN.out hg6)
            have HW6 := Lib.hid (show WantJ ns vn (j + 1) w3.heap.size w6 v6 from ⟨⟨us ++ us5, by rw [stT_succ HK.out, List.length_append]; exact hown6, by rw [stT_succ HK.out]; exact (HROWS.out.append HRX5.out).stay HSX.out⟩, fun i hi k' hk' => by
              rcases Nat.lt_or_ge i j with h | h
              · exact HW.out.2 i h k' hk'
              · have : i = j := by omega
                subst this
                rw [HK.out] at hk'; cases hk'; exact H20.out⟩)
            have HB6 := Lib.hid hb6
            clear hown6 hb6 hg6
            go_wp2_with fail
            go_roundw
            case rel => exact ⟨j + 1, by omega, by go_num, HW6, HB6⟩
            case measure => simp [intOf]; omega
          · rw [decide_eq_false h120]
            have HFIN := Lib.hid (below_trans HB3.out HB35.out)
            clear h120 hX hown5 hb5
            go_wp2_with fail
            go_ret
            exact ⟨rfl, HFIN.out⟩
        · have hje : j = vn.length := by omega
          subst hje
          obtain ⟨hW1, hW2⟩ := HW.out
          obtain ⟨L, hLe⟩ : ∃ L, L = stks (vn.map (tr ns)) := ⟨_, rfl⟩
          have hl0 : stT ns vn vn.length = L := by rw [hLe]; unfold stT; rw [List.take_length]
          rw [hl0] at hW1
          have hlen := stT_len vn.length (Nat.le_refl _) hW2
          rw [hl0] at hlen
          obtain ⟨Aw, cw, hve, hstw⟩ := hW1.stks
          subst hve
          have HLE0 := Lib.hid hLe
          have HSTW := Lib.hid hstw
          have HNE := Lib.hid (show vn.map (tr ns) ≠ [] from fun e => by rw [List.map_eq_nil_iff] at e; rw [e] at h0'; exact absurd h0' (by decide))
          have hn10 := HG.out.1
          have hdeep : ∀ t ∈ L, t.length ≤ 100000 := fun t ht => by
            rw [hLe] at ht
            obtain ⟨x, hx, h1⟩ := mem_stks.1 ht
            obtain ⟨k, hk, rfl⟩ := List.mem_map.1 hx
            have := stk_depth HG.out.tab (k + 1) k (Nat.lt_succ_self k) (HIN.out k hk) t h1
            have := HIN.out k hk
            omega
          have HSM := Lib.hid (show SmL L from ⟨by omega, hdeep⟩)
          have HBW := Lib.hid (below_trans HB3.out HBR.out)
          have HSZ := Lib.hid (show ∀ i, (tr ns i).2.size ≤ 9765625 from fun i => by
            rcases Nat.lt_or_ge i ns.length with hi | hi
            · have h510 : (5 : Nat) ^ 10 = 9765625 := by decide
              rw [← h510]
              exact tr_size HG.out 10 i (by omega)
            · have : tr ns i = (0, .nil) := by
                unfold tr
                rw [List.getD_eq_getElem?_getD, List.getElem?_eq_none (by rw [built_length]; exact hi)]
                rfl
              rw [this]; exact Nat.zero_le _)
          have HCNT := Lib.hid (show ∀ wd, (stkOf (Jl wd (vn.map (tr ns))).2).length ≤ (stks (vn.map (tr ns))).length from fun wd => by
            cases hv0 : vn with
            | nil => rw [hv0] at h0'; exact absurd h0' (by decide)
            | cons k l =>
              rw [hv0] at HIN h10
              have := Jl_count (w := wd) (l.map (tr ns)) (tr ns k) 4 (tr_made HG.out (HIN.out k (List.mem_cons_self ..))) (fun t ht => by
                obtain ⟨k', hk', rfl⟩ := List.mem_map.1 ht
                exact tr_made HG.out (HIN.out k' (List.mem_cons_of_mem _ hk'))) (by rw [List.length_map]; simp only [List.length_cons] at h10; omega)
              rw [List.map_cons]
              show (stkOf (jn wd (tr ns k) (l.map (tr ns))).2).length ≤ _
              have e : (stks (tr ns k :: l.map (tr ns))).length = (stkOf (tr ns k).2).length + (stks (l.map (tr ns))).length := by unfold stks; rw [List.flatMap_cons, List.length_append]
              omega)
          have HDEEP := Lib.hid (show ∀ wd, ∀ t ∈ stkOf (Jl wd (vn.map (tr ns))).2, t.length ≤ 100000 from fun wd => by
            cases hv0 : vn with
            | nil => rw [hv0] at h0'; exact absurd h0' (by decide)
            | cons k l =>
              rw [hLe, hv0] at hdeep
              exact Jl_deep (w := wd) (l.map (tr ns)) (tr ns k) (fun t ht => hdeep t (mem_stks.2 ⟨tr ns k, List.mem_cons_self .., ht⟩)) (fun t ht => hdeep t (by
                obtain ⟨z, hz, h⟩ := mem_stks.1 ht
                exact mem_stks.2 ⟨z, List.mem_cons_of_mem _ hz, h⟩)))
          by_cases h120 : L.length ≤ 120
          · have H120 := Lib.hid (show (stks (vn.map (tr ns))).length ≤ 120 by rw [← hLe]; exact h120)
            have h120a : ¬ (120 : Int) < (L.length : Int) := by omega
            clear hW1 hW2 hstw hLe hl0 hlen hdeep h120 HW
            cases wild with
            | true =>
              have HQ := Lib.hid (show QL true (vn.map (tr ns)) from ⟨fun t ht => by
                obtain ⟨k, hk, rfl⟩ := List.mem_map.1 ht
                exact tr_made HG.out (HIN.out k hk), fun t ht => by
                obtain ⟨k, hk, rfl⟩ := List.mem_map.1 ht
                exact tr_can HG.out (k + 1) k (Nat.lt_succ_self k), by rw [List.length_map]; omega, .inl rfl⟩)
              have HSP := Lib.hid (Jl_spec HQ.out HNE.out)
              have HC4 := Lib.hid (implMergeAll_any _ c ns _ c' vn true cached 200 _ (HT.out.ext HBW.out) HG.out (HV.out.ext HBW.out) HIN.out h0' h10 HQ.out HSZ.out (by decide) (HBB.out ns vn true HG.out HIN.out h0' h10 HQ.out H120.out))
              go_wp2_with fail
              refine HC4.out.mono ?_
              rintro e w7 ⟨A7, c7, ms, rfl, ht7, hgd, h07, hle7, htr, hb7⟩
              have HT7 := Lib.hid ht7
              have HB7 := Lib.hid (below_trans HBW.out hb7)
              have HGD := Lib.hid hgd
              have HTR := Lib.hid htr
              have HSTB := Lib.hid (HSTW.out.ext hb7)
              clear ht7 hgd htr hb7 HC4
              go_wp2_with fail
              refine (lawStacks_any A7 c7 ms w7 HT7.out HGD.out h07 hle7).mono ?_
              rintro e w8 ⟨v8, L8, rfl, hL8, hown8, hb8⟩
              have HLE := Lib.hid (show (stkOf (Jl true (vn.map (tr ns))).2).length ≤ 120 from Nat.le_trans (HCNT.out true) H120.out)
              rw [HTR.out, nrm_stkOf] at hL8 ⊢
              rw [if_pos HLE.out] at hL8
              rw [decide_eq_true HLE.out]
              obtain ⟨A9, c9, rfl, hst9⟩ := hown8.stks
              have HST9 := Lib.hid hst9
              have HB8 := Lib.hid (below_trans HB7.out hb8)
              have HL8 := Lib.hid hL8
              have HSTC := Lib.hid (HSTB.out.ext hb8)
              clear hown8 hst9 hb8 hL8
              have HSM8 := Lib.hid (show SmL L8 by rw [HL8.out]; exact ⟨by have := HLE.out; omega, HDEEP.out true⟩)
              go_wp2_with fail
              refine (Same_any true A9 Aw c9 cw L8 L w8 HST9.out HSM8.out HSTC.out HSM.out).mono ?_
              rintro e w9 ⟨rfl, hd⟩
              rw [sameB_of (wild := true) (L := L8) (M := L) (fun st => by rw [HL8.out, HSP.out.2.2, HLE0.out]; exact hasW_stks.symm)]
              have HB9 := Lib.hid (below_trans HB8.out hd.below)
              clear hd
              go_wp2_with fail
              go_ret
              exact ⟨by simp, HB9.out⟩
            | false =>
              have HAP := Lib.hid (Apart_any Aw cw L _ HSTW.out HSM.out)
              go_wp2_with fail
              refine HAP.out.mono ?_
              rintro e w6 ⟨rfl, hd6⟩
              have HB6 := Lib.hid (below_trans HBW.out hd6.below)
              have HST6 := Lib.hid (HSTW.out.ext hd6.below)
              clear hd6 HAP
              cases hap : apartB L
              · go_wp2_with fail
                go_ret
                exact ⟨rfl, HB6.out⟩
              have HAQ := Lib.hid (apartB_iff.1 hap)
              clear hap
              have HQ := Lib.hid (show QL false (vn.map (tr ns)) from ⟨fun t ht => by
                obtain ⟨k, hk, rfl⟩ := List.mem_map.1 ht
                exact tr_made HG.out (HIN.out k hk), fun t ht => by
                obtain ⟨k, hk, rfl⟩ := List.mem_map.1 ht
                exact tr_can HG.out (k + 1) k (Nat.lt_succ_self k), by rw [List.length_map]; omega, .inr (by rw [← HLE0.out]; exact HAQ.out)⟩)
              have HSP := Lib.hid (Jl_spec HQ.out HNE.out)
              have HC4 := Lib.hid (implMergeAll_any _ c ns _ c' vn false cached 200 w6 (HT.out.ext HB6.out) HG.out (HV.out.ext HB6.out) HIN.out h0' h10 HQ.out HSZ.out (by decide) (HBB.out ns vn false HG.out HIN.out h0' h10 HQ.out H120.out))
              go_wp2_with fail
              refine HC4.out.mono ?_
              rintro e w7 ⟨A7, c7, ms, rfl, ht7, hgd, h07, hle7, htr, hb7⟩
              have HT7 := Lib.hid ht7
              have HB7 := Lib.hid (below_trans HB6.out hb7)
              have HGD := Lib.hid hgd
              have HTR := Lib.hid htr
              have HSTB := Lib.hid (HST6.out.ext hb7)
              clear ht7 hgd htr hb7 HC4
              go_wp2_with fail
              refine (lawStacks_any A7 c7 ms w7 HT7.out HGD.out h07 hle7).mono ?_
              rintro e w8 ⟨v8, L8, rfl, hL8, hown8, hb8⟩
              have HLE := Lib.hid (show (stkOf (Jl false (vn.map (tr ns))).2).length ≤ 120 from Nat.le_trans (HCNT.out false) H120.out)
              rw [HTR.out, nrm_stkOf] at hL8 ⊢
              rw [if_pos HLE.out] at hL8
              rw [decide_eq_true HLE.out]
              obtain ⟨A9, c9, rfl, hst9⟩ := hown8.stks
              have HST9 := Lib.hid hst9
              have HB8 := Lib.hid (below_trans HB7.out hb8)
              have HL8 := Lib.hid hL8
              have HSTC := Lib.hid (HSTB.out.ext hb8)
              clear hown8 hst9 hb8 hL8
              have HSM8 := Lib.hid (show SmL L8 by rw [HL8.out]; exact ⟨by have := HLE.out; omega, HDEEP.out false⟩)
              go_wp2_with fail
              refine (Same_any false A9 Aw c9 cw L8 L w8 HST9.out HSM8.out HSTC.out HSM.out).mono ?_
              rintro e w9 ⟨rfl, hd⟩
              rw [sameB_of (wild := false) (L := L8) (M := L) (fun st => by rw [HL8.out, HSP.out.2.2, HLE0.out]; exact hasW_stks.symm)]
              have HB9 := Lib.hid (below_trans HB8.out hd.below)
              clear hd
              go_wp2_with fail
              go_ret
              exact ⟨by simp, HB9.out⟩
          · have h120a : (120 : Int) < (L.length : Int) := by omega
            clear hW1 hW2 hstw hLe hl0 hlen hdeep h120 HW
            go_wp2_with fail
            go_ret
            exact ⟨rfl, HBW.out⟩
  · go_wp2_with fail
    go_ret
    exact ⟨rfl, HB1.out⟩
end Go.Proofs.Ytcbabfndfikejaa
