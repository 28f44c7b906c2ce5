/- In one: From a good table its trees as a system, and the set of a list of its choices. Plain Lean, no program in sight. The bound for a run of merges, from the bound for sets of a table of trees. Plain Lean, no program in sight. -/
import Derived.Test.YtcbabfndfikejaaZ21
import Derived.Test.YtcbabfndfikejaaZ20
import Derived.Test.YtcbabfndfikejaaZ22
namespace Go.Proofs.Ytcbabfndfikejaa
open Rlx
/-- the trees of a table that have tops, each once -/
def treesX (ns : List Nd) : List Tr := uniq (((List.range ns.length).map (tr ns)).filter fun t => !t.2.isNil)
theorem mem_treesX {ns : List Nd} {t : Tr} : t ∈ treesX ns ↔ (∃ i, i < ns.length ∧ tr ns i = t) ∧ t.2.isNil = false := by
  unfold treesX
  rw [mem_uniq, List.mem_filter, List.mem_map]
  simp only [List.mem_range, Bool.not_eq_true']
theorem tr_zero {ns : List Nd} (hg : GoodT ns) : (tr ns 0).2.isNil = true := by
  cases hf : (tr ns 0).2 with
  | nil => rfl
  | cons s k a r =>
    obtain ⟨u, hu, _⟩ := tr_kids hg (i := 0) (s := s) (k := k) (a := a) (by rw [hf]; exact List.mem_cons_self ..)
    omega
theorem treesX_len {ns : List Nd} (hg : GoodT ns) : (treesX ns).length ≤ 9 := by
  have h1 := (uniq_sub (((List.range ns.length).map (tr ns)).filter fun t => !t.2.isNil)).length_le
  have h2 : (((List.range ns.length).map (tr ns)).filter fun t => !t.2.isNil).length ≤ 9 := by
    have hn := hg.1
    cases hl : ns.length with
    | zero => simp
    | succ m =>
      rw [List.range_succ_eq_map, List.map_cons, List.filter_cons_of_neg (by rw [tr_zero hg]; simp)]
      refine Nat.le_trans (List.length_filter_le _ _) ?_
      simp only [List.length_map, List.length_range]
      omega
  exact Nat.le_trans h1 h2
/-- sorted by size -/
def bySize (l : List Tr) : List Tr := l.mergeSort fun a b => decide (a.2.size ≤ b.2.size)
theorem bySize_perm (l : List Tr) : (bySize l).Perm l := List.mergeSort_perm l _
theorem bySize_sorted (l : List Tr) : (bySize l).Pairwise fun a b => a.2.size ≤ b.2.size := by
  have := List.pairwise_mergeSort (le := fun a b : Tr => decide (a.2.size ≤ b.2.size)) (fun a b c h1 h2 => by simp only [decide_eq_true_eq] at *; omega) (fun a b => by simp only [Bool.or_eq_true, decide_eq_true_eq]; omega) l
  exact this.imp fun h => by simpa using h
theorem bySize_at {l : List Tr} {i : Nat} {t c : Tr} (ht : (bySize l)[i]? = some t) (hc : c ∈ l) (hlt : c.2.size < t.2.size) : ∃ j, j < i ∧ (bySize l)[j]? = some c := by
  obtain ⟨j, hj⟩ := List.getElem?_of_mem ((bySize_perm l).mem_iff.2 hc)
  refine ⟨j, ?_, hj⟩
  rcases Nat.lt_trichotomy j i with h | h | h
  · exact h
  · subst h; rw [ht] at hj; cases hj; omega
  · obtain ⟨hi', e1⟩ := List.getElem?_eq_some_iff.1 ht
    obtain ⟨hj', e2⟩ := List.getElem?_eq_some_iff.1 hj
    have := List.pairwise_iff_getElem.1 (bySize_sorted l) i j hi' hj' h
    rw [e1, e2] at this; omega
def isThin (t : Tr) : Bool := decide ((stkOf t.2).length = 1)
/-- those with one stack -/
def thinX (ns : List Nd) : List Tr := bySize ((treesX ns).filter isThin)
def thickX (ns : List Nd) : List Tr := bySize ((treesX ns).filter fun t => !isThin t)
def allX (ns : List Nd) : List Tr := thinX ns ++ thickX ns
theorem mem_thinX {ns : List Nd} {t : Tr} : t ∈ thinX ns ↔ t ∈ treesX ns ∧ (stkOf t.2).length = 1 := by
  unfold thinX
  rw [(bySize_perm _).mem_iff, List.mem_filter]
  unfold isThin
  rw [decide_eq_true_eq]
theorem mem_thickX {ns : List Nd} {t : Tr} : t ∈ thickX ns ↔ t ∈ treesX ns ∧ (stkOf t.2).length ≠ 1 := by
  unfold thickX
  rw [(bySize_perm _).mem_iff, List.mem_filter]
  unfold isThin
  simp
theorem mem_allX {ns : List Nd} {t : Tr} : t ∈ allX ns ↔ t ∈ treesX ns := by
  unfold allX
  rw [List.mem_append, mem_thinX, mem_thickX]
  constructor
  · rintro (h | h) <;> exact h.1
  · intro h
    by_cases e : (stkOf t.2).length = 1
    · exact .inl ⟨h, e⟩
    · exact .inr ⟨h, e⟩
theorem tr_kidX {ns : List Nd} (hg : GoodT ns) {t : Tr} (ht : t ∈ treesX ns) {s : Int} {c : Tr} (hc : t.2.get s = some c) : c = (0, .nil) ∨ c ∈ treesX ns ∧ c.2.size < t.2.size ∧ ((stkOf t.2).length = 1 → (stkOf c.2).length = 1) := by
  obtain ⟨⟨i, hi, rfl⟩, hn⟩ := mem_treesX.1 ht
  have hm := (get_mem (tr_made hg hi).srt).1 hc
  obtain ⟨v, _, hv, e⟩ := tr_kids hg hm
  have e' : c = tr ns v := e
  cases hcn : c.2.isNil
  · refine .inr ⟨mem_treesX.2 ⟨⟨v, hv, e'.symm⟩, hcn⟩, Tops.list_size hm, fun h1 => ?_⟩
    rw [stkOf_len _ hn, tops_stk] at h1
    have key : ∀ l : List (Int × Nat × Tops), (s, c.1, c.2) ∈ l → (stkOf c.2).length ≤ (l.map fun x => (stkOf x.2.2).length).sum := fun l => by
      induction l with
      | nil => intro h; cases h
      | cons x l ih =>
        intro h
        rw [List.map_cons, List.sum_cons]
        rcases List.mem_cons.1 h with h | h
        · subst h; exact Nat.le_add_right _ _
        · have := ih h; omega
    have := key _ hm
    have := stkOf_pos c.2
    omega
  · left
    rw [e'] at hcn ⊢
    have hw := (tr_made hg hv).wf
    exact Prod.ext (hw.nil_zero.1 hcn) (Tops.isNil_eq hcn)
/-- THE TABLE AS A SYSTEM -/
theorem sysX {ns : List Nd} (hg : GoodT ns) : Sys (allX ns) (thinX ns).length where
  len := by
    have h1 := treesX_len hg
    have h2 : (allX ns).length = (treesX ns).length := by
      unfold allX thinX thickX
      rw [List.length_append, (bySize_perm _).length_eq, (bySize_perm _).length_eq]
      induction treesX ns with
      | nil => rfl
      | cons x l ih =>
        by_cases h : isThin x = true
        · rw [List.filter_cons_of_pos h, List.filter_cons_of_neg (by simp [h]), List.length_cons, List.length_cons]; omega
        · rw [List.filter_cons_of_neg h, List.filter_cons_of_pos (by simp [h]), List.length_cons, List.length_cons]; omega
    omega
  nodup := by
    have hu : (treesX ns).Nodup := uniq_nodup _
    unfold allX
    refine List.nodup_append.2 ⟨(bySize_perm _).nodup_iff.2 (hu.sublist List.filter_sublist), (bySize_perm _).nodup_iff.2 (hu.sublist List.filter_sublist), fun a ha b hb e => ?_⟩
    subst e
    exact (mem_thickX.1 hb).2 (mem_thinX.1 ha).2
  made t ht := by
    obtain ⟨⟨i, hi, rfl⟩, _⟩ := mem_treesX.1 (mem_allX.1 ht)
    exact tr_made hg hi
  can t ht := by
    obtain ⟨⟨i, hi, rfl⟩, _⟩ := mem_treesX.1 (mem_allX.1 ht)
    exact tr_can hg (i + 1) i (Nat.lt_succ_self i)
  tops t ht := (mem_treesX.1 (mem_allX.1 ht)).2
  kid i t hi s c hc := by
    have ht := mem_allX.1 (List.mem_of_getElem? hi)
    rcases tr_kidX hg ht hc with h | ⟨h1, h2, h3⟩
    · exact .inl h
    · right
      unfold allX at hi ⊢
      rcases Nat.lt_or_ge i (thinX ns).length with h | h
      · rw [List.getElem?_append_left h] at hi
        have htt := mem_thinX.1 (List.mem_of_getElem? hi)
        obtain ⟨j, hj, hjc⟩ := bySize_at hi (List.mem_filter.2 ⟨h1, by unfold isThin; exact decide_eq_true (h3 htt.2)⟩) h2
        have hjc' : (thinX ns)[j]? = some c := hjc
        exact ⟨j, hj, by rw [List.getElem?_append_left (by omega)]; exact hjc'⟩
      · rw [List.getElem?_append_right h] at hi
        by_cases hct : (stkOf c.2).length = 1
        · obtain ⟨j, hj⟩ := List.getElem?_of_mem (mem_thinX.2 ⟨h1, hct⟩)
          have hjl := (List.getElem?_eq_some_iff.1 hj).1
          exact ⟨j, by omega, by rw [List.getElem?_append_left hjl]; exact hj⟩
        · obtain ⟨j, hj, hjc⟩ := bySize_at hi (List.mem_filter.2 ⟨h1, by unfold isThin; simp [hct]⟩) h2
          have hjc' : (thickX ns)[j]? = some c := hjc
          exact ⟨(thinX ns).length + j, by omega, by rw [List.getElem?_append_right (by omega), Nat.add_sub_cancel_left]; exact hjc'⟩
  hu := by unfold allX; rw [List.length_append]; omega
  thin i t hi := by
    unfold allX at hi
    rcases Nat.lt_or_ge i (thinX ns).length with h | h
    · rw [List.getElem?_append_left h] at hi
      exact ⟨fun _ => h, fun _ => (mem_thinX.1 (List.mem_of_getElem? hi)).2⟩
    · rw [List.getElem?_append_right h] at hi
      exact ⟨fun h1 => absurd h1 (mem_thickX.1 (List.mem_of_getElem? hi)).2, fun h1 => by omega⟩
end Go.Proofs.Ytcbabfndfikejaa
namespace Go.Proofs.Ytcbabfndfikejaa
open Rlx
/-- what may be new in a run is a merge of others of the table -/
theorem rds_rd {ns : List Nd} {w : Bool} {t : Tr} (h : RDs w (OkL (InT ns) w) t) : Rd w (allX ns) t := fun st hst => by
  have htop := rds_tops h
  obtain ⟨l, y, hl, hq, hp, e, h2, h3⟩ := rds_listP h
  have hne : l ++ [y] ≠ [] := by simp
  obtain ⟨_, hw, hs⟩ := Jl_spec hq hne
  have hst' : UU w (Jl w (l ++ [y])) st := e ▸ hst
  obtain ⟨v, hv, hvs⟩ := (hs st).1 hst'
  have hsub : ∀ z ∈ l ++ [y], Sb w z t := fun z hz s hs' => by
    have : UU w (Jl w (l ++ [y])) s := (hs s).2 ⟨z, hz, hs'⟩
    rw [e]; exact this
  refine ⟨v, ?_, fun evt => ?_, hsub v hv, hvs, trivial⟩
  · refine mem_allX.2 (mem_treesX.2 ⟨hp v hv, ?_⟩)
    cases hn : v.2.isNil
    · rfl
    · rw [e, Jl_leaf hq hne hv hn] at htop
      cases htop
  · rcases List.mem_append.1 hv with hv | hv
    · have hsl := Jl_spec hq.left hl
      refine h2 (ws_ext (w := w) (by rw [e]; exact hw) hsl.2.1 fun s => ⟨fun h => (hsl.2.2 s).2 ⟨v, hv, by rw [evt]; exact h⟩, fun h => ?_⟩)
      obtain ⟨z, hz, h4⟩ := (hsl.2.2 s).1 h
      exact hsub z (List.mem_append_left _ hz) s h4
    · rw [List.mem_singleton] at hv
      exact h3 (by rw [← evt]; exact hv)
/-- the bound for sets of a table -/
def BoundS : Prop := ∀ (X : List Tr) (u : Nat), Sys X u → ∀ (w : Bool) (r : Tr → Bool), (∀ t, r t = true → t.2.isNil = false) → (∀ t, r t = true → (stkOf t.2).length ≠ 1) → (∀ t ∈ X, r t = true → Rd w X t) →
  ∀ S, RealX w X S → 0 < S → gs (sX X) S 9 ≤ 120 → DX w X r S ≤ 190
theorem bound_run (HB : BoundS) (ns : List Nd) (vn : List Nat) (wild : Bool) (hg : GoodT ns) (hin : ∀ v ∈ vn, v < ns.length) (h0 : 0 < vn.length) (hq : QL wild (vn.map (tr ns))) (h120 : (stks (vn.map (tr ns))).length ≤ 120)
    (r : Tr → Bool) (hr2 : ∀ t, r t = true → RDs wild (OkL (InT ns) wild) t) : ns.length + DZ r (Jl wild (vn.map (tr ns))) ≤ 200 := by
  have hr0 : ∀ t, r t = true → t.2.isNil = false := fun t ht => rds_tops (hr2 t ht)
  have hn10 := hg.1
  have hne : vn.map (tr ns) ≠ [] := fun e => by
    rw [List.map_eq_nil_iff] at e
    rw [e] at h0; exact absurd h0 (by decide)
  by_cases hleaf : ∃ t ∈ vn.map (tr ns), t.2.isNil = true
  · obtain ⟨t, ht, hn⟩ := hleaf
    rw [Jl_leaf hq hne ht hn, dz_leaf hr0]
    omega
  · have hin2 : ∀ v ∈ vn, tr ns v ∈ allX ns := fun v hv => mem_allX.2 (mem_treesX.2 ⟨⟨v, hin v hv, rfl⟩, by
      cases hn : (tr ns v).2.isNil
      · rfl
      · exact absurd ⟨tr ns v, List.mem_map_of_mem hv, hn⟩ hleaf⟩)
    have hsys := sysX hg
    have hl9 := hsys.len
    have hix : ∀ v ∈ vn, (allX ns).idxOf (tr ns v) < (allX ns).length ∧ Tm (allX ns) ((allX ns).idxOf (tr ns v)) = tr ns v := fun v hv => by
      have hlt := List.idxOf_lt_length_iff.2 (hin2 v hv)
      refine ⟨hlt, ?_⟩
      have h1 := Tm_at hlt
      rw [List.getElem?_eq_getElem hlt, List.getElem_idxOf hlt] at h1
      exact (Option.some.inj h1).symm
    obtain ⟨S, hS⟩ : ∃ S, S = mk (vn.map fun v => (allX ns).idxOf (tr ns v)) := ⟨_, rfl⟩
    have hbit : ∀ i, S.testBit i = true ↔ ∃ v ∈ vn, (allX ns).idxOf (tr ns v) = i := fun i => by rw [hS, mk_bit, List.mem_map]
    have hmem : ∀ t, t ∈ setL (allX ns) S ↔ t ∈ vn.map (tr ns) := fun t => by
      rw [mem_setL, List.mem_map]
      constructor
      · rintro ⟨i, _, hb, rfl⟩
        obtain ⟨v, hv, rfl⟩ := (hbit i).1 hb
        exact ⟨v, hv, (hix v hv).2.symm⟩
      · rintro ⟨v, hv, rfl⟩
        have := (hix v hv).1
        exact ⟨_, by omega, (hbit _).2 ⟨v, hv, rfl⟩, (hix v hv).2⟩
    have hreal : RealX wild (allX ns) S := ⟨Nat.lt_pow_two_of_testBit _ fun i hi => by
      cases hc : S.testBit i with
      | false => rfl
      | true =>
        obtain ⟨v, hv, rfl⟩ := (hbit i).1 hc
        have := (hix v hv).1
        omega, hq.sub (fun t ht => (hmem t).1 ht) (Nat.le_trans (setL_len _) (by decide))⟩
    have hS0 : 0 < S := by
      obtain ⟨v, hv⟩ := List.exists_mem_of_length_pos h0
      exact Nat.pos_of_ne_zero fun e => by
        have := (hbit _).2 ⟨v, hv, rfl⟩
        rw [e, Nat.zero_testBit] at this; cases this
    have hgs : gs (sX (allX ns)) S 9 ≤ 120 := by
      refine Nat.le_trans ?_ h120
      rw [hS]
      refine Nat.le_trans (gs_mk _ 9 _) ?_
      unfold stks
      rw [List.length_flatMap, List.map_map, List.map_map]
      refine Rlx.sum_le _ fun v hv => ?_
      obtain ⟨h1, h2⟩ := hix v hv
      show (if (allX ns).idxOf (tr ns v) < 9 then sX (allX ns) ((allX ns).idxOf (tr ns v)) else 0) ≤ (stkOf (tr ns v).2).length
      rw [if_pos (by omega), sX_lt h1, h2]
      exact Nat.le_refl _
    have hD := HB (allX ns) _ hsys wild r hr0 (fun t ht => rds_thin (hr2 t ht)) (fun t _ ht => rds_rd (hr2 t ht)) S hreal hS0 hgs
    unfold DX at hD
    rw [Jl_set hreal.2 hq (setL_ne hl9 hreal.1 hS0) hmem] at hD
    omega
/-- nine trees of one stack -/
theorem bound_nine {X : List Tr} (h : Sys X 9) {w : Bool} {r : Tr → Bool} (hr0 : ∀ t, r t = true → t.2.isNil = false) (hth : ∀ t, r t = true → (stkOf t.2).length ≠ 1) : ∀ S, RealX w X S → DX w X r S ≤ 190 := fun S hS => by
  have hl := h.len
  have hu := h.hu
  have hr1 : ∀ i, i < 9 → r (Tm X i) = false := fun i hi => by
    cases hc : r (Tm X i)
    · rfl
    · exact absurd ((h.thin i _ (Tm_at (by omega))).2 hi) (hth _ hc)
  have h9 : X.length = 9 := by omega
  have hS2 := hS.1
  rw [h9] at hS2
  have h1 := (tab9_any (w := w) h hr0 hr1).thin S hS hS2
  have h2 : ∀ S, S < 512 → evenS S 9 false ≤ 190 := by decide +kernel
  exact Nat.le_trans h1 (h2 S hS2)
end Go.Proofs.Ytcbabfndfikejaa
