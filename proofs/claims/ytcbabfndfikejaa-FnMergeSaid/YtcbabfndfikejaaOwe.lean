/- What a merge of two choices of a good table hands back: its stacks, and that it has at most 200 nodes. Condition: the table is good, both have at most 120 stacks together. -/
import Derived.Test.YtcbabfndfikejaaMtU
import Derived.Test.YtcbabfndfikejaaMtC
import Derived.Test.YtcbabfndfikejaaMzz
import Derived.Test.YtcbabfndfikejaaBnd
import Derived.Test.YtcbabfndfikejaaQ2
namespace Go.Proofs.Ytcbabfndfikejaa
open Go.RowKit
set_option linter.unusedSimpArgs false

/-- what is below a node of a table is a node ahead of it -/
theorem tr_kids {ns : List Nd} (hg : GoodT ns) {i : Nat} {s : Int} {k : Nat} {a : Tops} (h : (s, k, a) ∈ (tr ns i).2.list) : ∃ u, u < i ∧ u < ns.length ∧ (k, a) = tr ns u := by
  rcases Nat.lt_or_ge i ns.length with hi | hi
  · have hnd := List.getElem?_eq_getElem hi
    generalize ns[i] = nd at hnd
    obtain ⟨hpl, hsl, hpar⟩ := hg.tab.2 i nd hnd
    rw [tr_eq hg.tab hnd] at h
    obtain ⟨j, hj⟩ := List.getElem?_of_mem h
    have hjl : j < nd.ss.length := by
      rw [← mkTops_len (built ns) nd.ps nd.ss hpl, ← Tops.list_length]
      exact (List.getElem?_eq_some_iff.1 hj).1
    obtain ⟨p, hp, hpa⟩ := hpar j hjl
    rw [list_at, mkTops_at hp (List.getElem?_eq_getElem hjl)] at hj
    cases hj
    exact ⟨p, hpa, by omega, rfl⟩
  · have : tr ns i = (0, .nil) := by
      unfold tr
      rw [List.getD_eq_getElem?_getD, List.getElem?_eq_none (by rw [built_length]; exact hi)]
      rfl
    rw [this] at h
    cases h
theorem tr_len {ns : List Nd} (hg : GoodT ns) (i : Nat) : (tr ns i).2.len ≤ 4 := by
  rcases Nat.lt_or_ge i ns.length with hi | hi
  · have hnd := List.getElem?_eq_getElem hi
    generalize ns[i] = nd at hnd
    obtain ⟨h1, h2, _⟩ := hg.2 i nd hi hnd
    rw [tr_eq hg.tab hnd]
    simp only
    rw [mkTops_len _ _ _ h1]
    exact h2
  · have : tr ns i = (0, .nil) := by
      unfold tr
      rw [List.getD_eq_getElem?_getD, List.getElem?_eq_none (by rw [built_length]; exact hi)]
      rfl
    rw [this]
    exact Nat.zero_le _
theorem cap_of {c : Nat} : ∀ f : Tops, (∀ s k a, (s, k, a) ∈ f.list → a.len ≤ c ∧ a.cap c) → f.cap c
  | .nil, _ => trivial
  | .cons s k a r, h => ⟨(h s k a (List.mem_cons_self ..)).1, (h s k a (List.mem_cons_self ..)).2, cap_of r (fun s k a hm => h s k a (List.mem_cons_of_mem _ hm))⟩
theorem tr_cap {ns : List Nd} (hg : GoodT ns) : ∀ (n i : Nat), i < n → (tr ns i).2.cap 4
  | 0, _, h => absurd h (by omega)
  | n + 1, i, hi => cap_of _ (fun s k a h => by
    obtain ⟨u, hu, _, e⟩ := tr_kids hg h
    have e1 : a = (tr ns u).2 := congrArg Prod.snd e
    rw [e1]
    exact ⟨tr_len hg u, tr_cap hg n u (by omega)⟩)
theorem tr_made {ns : List Nd} (hg : GoodT ns) {i : Nat} (hi : i < ns.length) : Made 4 (tr ns i) := ⟨tr_wf hg (i + 1) i (Nat.lt_succ_self _) hi, tr_srt hg (i + 1) i (Nat.lt_succ_self _) hi, tr_len hg i, tr_cap hg (i + 1) i (Nat.lt_succ_self _)⟩
theorem size_of {B : Nat} : ∀ f : Tops, (∀ s k a, (s, k, a) ∈ f.list → a.size ≤ B) → f.size ≤ f.len * (B + 1)
  | .nil, _ => Nat.zero_le _
  | .cons s k a r, h => by
    have h1 := h s k a (List.mem_cons_self ..)
    have h2 := size_of r (fun s k a hm => h s k a (List.mem_cons_of_mem _ hm))
    simp only [Tops.size, Tops.len, Nat.add_mul, Nat.one_mul]
    omega
theorem tr_size {ns : List Nd} (hg : GoodT ns) : ∀ (n i : Nat), i < n → (tr ns i).2.size ≤ 5 ^ n
  | 0, _, h => absurd h (by omega)
  | n + 1, i, hi => by
    have h1 := size_of (B := 5 ^ n) (tr ns i).2 (fun s k a h => by
      obtain ⟨u, hu, _, e⟩ := tr_kids hg h
      have e1 : a = (tr ns u).2 := congrArg Prod.snd e
      rw [e1]
      exact tr_size hg n u (by omega))
    have h2 := tr_len hg i
    have h3 : (tr ns i).2.len * (5 ^ n + 1) ≤ 4 * (5 ^ n + 1) := Nat.mul_le_mul_right _ h2
    rcases Nat.eq_zero_or_pos i with h0 | h0
    · subst h0
      have : (tr ns 0).2.len = 0 := by
        cases hf : (tr ns 0).2 with
        | nil => rfl
        | cons s k a r =>
          obtain ⟨u, hu, _⟩ := tr_kids hg (i := 0) (s := s) (k := k) (a := a) (by rw [hf]; exact List.mem_cons_self ..)
          omega
      rw [this, Nat.zero_mul] at h1
      exact Nat.le_trans h1 (Nat.zero_le _)
    · have h5 : 5 ≤ 5 ^ n := by
        obtain ⟨m, rfl⟩ : ∃ m, n = m + 1 := ⟨n - 1, by omega⟩
        rw [Nat.pow_succ]
        have := Nat.pow_pos (n := m) (show 0 < 5 by decide)
        omega
      rw [Nat.pow_succ]
      omega
/-! ### no stack of a merge is longer -/
theorem zip_mem {m : Tr → Tr → Tr} : ∀ (f g : Tops) (st : List Int), st ∈ (zipT m f g).stk → st ∈ f.stk ∨ st ∈ g.stk ∨ ∃ s k a k' b t, (s, k, a) ∈ f.list ∧ (s, k', b) ∈ g.list ∧ st = s :: t ∧ t ∈ stkOf (m (k, a) (k', b)).2
  | .nil, g, st, h => by rw [zipT] at h; exact .inr (.inl h)
  | .cons s k a r, .nil, st, h => by rw [zipT] at h; exact .inl h
  | .cons s k a r, .cons t k' b r', st, h => by
    rw [zipT] at h
    split at h
    · rename_i e
      subst e
      rw [stk_cons] at h
      rcases List.mem_append.1 h with h | h
      · obtain ⟨u, hu, rfl⟩ := List.mem_map.1 h
        exact .inr (.inr ⟨s, k, a, k', b, u, List.mem_cons_self .., List.mem_cons_self .., rfl, hu⟩)
      · rcases zip_mem r r' st h with h | h | ⟨s1, k1, a1, k2, b1, t1, h1, h2, h3⟩
        · exact .inl (by rw [stk_cons]; exact List.mem_append_right _ h)
        · exact .inr (.inl (by rw [stk_cons]; exact List.mem_append_right _ h))
        · exact .inr (.inr ⟨s1, k1, a1, k2, b1, t1, List.mem_cons_of_mem _ h1, List.mem_cons_of_mem _ h2, h3⟩)
    · split at h
      · rw [stk_cons] at h
        rcases List.mem_append.1 h with h | h
        · exact .inl (by rw [stk_cons]; exact List.mem_append_left _ h)
        · rcases zip_mem r (.cons t k' b r') st h with h | h | ⟨s1, k1, a1, k2, b1, t1, h1, h2, h3⟩
          · exact .inl (by rw [stk_cons]; exact List.mem_append_right _ h)
          · exact .inr (.inl h)
          · exact .inr (.inr ⟨s1, k1, a1, k2, b1, t1, List.mem_cons_of_mem _ h1, h2, h3⟩)
      · rw [stk_cons] at h
        rcases List.mem_append.1 h with h | h
        · exact .inr (.inl (by rw [stk_cons]; exact List.mem_append_left _ h))
        · rcases zip_mem (.cons s k a r) r' st h with h | h | ⟨s1, k1, a1, k2, b1, t1, h1, h2, h3⟩
          · exact .inl h
          · exact .inr (.inl (by rw [stk_cons]; exact List.mem_append_right _ h))
          · exact .inr (.inr ⟨s1, k1, a1, k2, b1, t1, h1, List.mem_cons_of_mem _ h2, h3⟩)
termination_by f g => f.len + g.len
decreasing_by all_goals (simp only [Tops.len]; omega)
theorem mrg_depth (w : Bool) : ∀ (n D : Nat) (x y : Tr), (∀ t ∈ stkOf x.2, t.length ≤ D) → (∀ t ∈ stkOf y.2, t.length ≤ D) → ∀ t ∈ stkOf (mrg w n x y).2, t.length ≤ D
  | 0, D, x, y, hx, _, t, ht => hx t ht
  | n + 1, D, (k, f), (k', g), hx, hy, t, ht => by
    rw [mrg] at ht
    split at ht
    · exact hx t ht
    split at ht
    · exact hx t ht
    split at ht
    · exact hy t ht
    have hz : ∀ L z, (mkM L z).2 = z := fun L z => by unfold mkM; split <;> rfl
    rw [hz] at ht
    cases hn : (zipT (mrg w n) f g).isNil
    · simp only at hx hy ht
      rw [stkOf_len _ hn] at ht
      have sub : ∀ {f : Tops} {t : List Int}, t ∈ f.stk → t ∈ stkOf f := fun {f t} h => by
        cases hf : f.isNil
        · rw [stkOf_len f hf]; exact h
        · rw [Tops.isNil_eq hf] at h; cases h
      rcases zip_mem f g t ht with h | h | ⟨s1, k1, a1, k2, b1, t1, h1, h2, rfl, h3⟩
      · exact hx t (sub h)
      · exact hy t (sub h)
      · have d1 : ∀ u ∈ stkOf a1, u.length ≤ D - 1 := fun u hu => by
          have := hx _ (sub (mem_stk h1 hu)); simp at this; omega
        have d2 : ∀ u ∈ stkOf b1, u.length ≤ D - 1 := fun u hu => by
          have := hy _ (sub (mem_stk h2 hu)); simp at this; omega
        have hD : 1 ≤ D := by
          obtain ⟨u, hu⟩ := List.exists_mem_of_length_pos (stkOf_pos a1)
          have := hx _ (sub (mem_stk h1 hu)); simp at this; omega
        have := mrg_depth w n (D - 1) (k1, a1) (k2, b1) d1 d2 t1 h3
        simp; omega
    · rw [Tops.isNil_eq hn, stkOf_nil] at ht
      simp at ht
      subst ht
      exact Nat.zero_le _
/-- WHAT A MERGE OWES, paid -/
theorem owesG_any {ns : List Nd} (hg : GoodT ns) {a b : Nat} (ha : a < ns.length) (hb : b < ns.length) (hs : (both ns a b).length ≤ 120) (wild cached : Bool) (W : World) (qs : List Addr) (hr : Reps2 W NoX (built ns) qs) (hl : qs.length = ns.length) :
    OwesG a b wild cached (mg wild (tr ns a) (tr ns b)) 200 W qs := by
  intro W' qa qb v hbel hv1 hv2 h1 h2
  have ma := (tr_made hg ha).mono (show 4 ≤ 64 by decide)
  have mb := (tr_made hg hb).mono (show 4 ≤ 64 by decide)
  have hn10 := hg.1
  obtain ⟨ka, k1, k2⟩ := hr.1 a qa h1
  obtain ⟨kb, k3, k4⟩ := hr.1 b qb h2
  have ea : tr ns a = ka := by unfold tr; rw [List.getD_eq_getElem?_getD, k1]; rfl
  have eb : tr ns b = kb := by unfold tr; rw [List.getD_eq_getElem?_getD, k3]; rfl
  have ra : Rep W' NoX qa (tr ns a).1 (tr ns a).2 := by rw [ea]; exact k2.stay (Stay.of_below hbel)
  have rb : Rep W' NoX qb (tr ns b).1 (tr ns b).2 := by rw [eb]; exact k4.stay (Stay.of_below hbel)
  have hcl : ClX W' NoX qs := ((cl_of_reps hr).stay (Stay.of_below hbel))
  have hsz := tr_size hg 10 a (by omega)
  have h510 : (5 : Nat) ^ 10 = 9765625 := by decide
  have hcn : cn wild (tr ns a) (tr ns b) ≤ 190 := cn_bound wild (tr ns) (fun i s k x h => by
    obtain ⟨u, hu, _, e⟩ := tr_kids hg h
    exact ⟨u, hu, e⟩) (tr_len hg) a b (by omega) (by omega) (by unfold both at hs; rw [List.length_append] at hs; exact hs)
  cases cached with
  | false =>
    rw [hv1 rfl]
    refine (mtU_all wild qs ((tr ns a).2.size + 1) (tr ns a) (tr ns b) qa qb W' 0 (fun _ => False) NoX (fun g hg => hg.elim) (Nat.lt_succ_self _) (fun j hj => hj) ra rb ma mb (List.mem_of_getElem? h1) (List.mem_of_getElem? h2) hcl (by omega)).mono ?_
    rintro e w' ⟨r, E, Φ', rfl, g1, g2, g3, g4, g5, g6, g7, g8⟩
    have gb : Below W.heap.size W' w' := g7.below (fun j hj => hj.elim) hbel.size
    exact ⟨r, qs ++ E, rfl, g4, g2, g3.cl, by rw [List.length_append]; omega, hbel.trans gb⟩
  | true =>
    obtain ⟨pa, Φ, B, hB, rfl, hpc⟩ := hv2 rfl
    refine (mtC_all B pa wild qs ((tr ns a).2.size + 1) (tr ns a) (tr ns b) qa qb W' 0 Φ NoX (fun g hg => hg.elim) (Nat.lt_succ_self _) hpc ra rb ma mb (List.mem_of_getElem? h1) (List.mem_of_getElem? h2) hcl (by omega)).mono ?_
    rintro e w' ⟨r, E, Φ', rfl, g1, g2, g3, g4, g5, g6, g7, g8⟩
    have hΦ : ∀ j, Φ j → W.heap.size ≤ j := fun j hj => by
      obtain ⟨_, _, _, _, _, _, _, _, _, _, _, _, _, _, h10⟩ := hpc
      exact Nat.le_trans hB (h10 j hj).1
    have gb : Below W.heap.size W' w' := g7.below hΦ hbel.size
    exact ⟨r, qs ++ E, rfl, g4, g2, g3.cl, by rw [List.length_append]; omega, hbel.trans gb⟩
/-- impl.Merge of two nodes of a good table. -/
theorem merge_tab {ns : List Nd} (hg : GoodT ns) {a b : Nat} (ha : a < ns.length) (hb : b < ns.length) (hs : (both ns a b).length ≤ 120) (wild cached : Bool) (A : Option Addr) (c : Nat) (w : World) (ht : Tbl w w.heap.size A ns) :
    Calls Try.prog 31 #[.slice A ns.length c, .int .i64 (a : Int), .int .i64 (b : Int), .bool wild, .bool cached] w (TabN 200 (mg wild (tr ns a) (tr ns b)).2 w) := by
  have hm := mrg_made wild (show 4 + 4 ≤ 1000 by decide) ((tr ns a).2.size + 1) _ _ (tr_made hg ha) (tr_made hg hb)
  exact implMerge_any A c a b wild cached ns (mg wild (tr ns a) (tr ns b)) 200 w ht hg ha hb hm.wf hm.srt (by decide) (fun W qs hr hl => owesG_any hg ha hb hs wild cached W qs hr hl)
theorem mg_len {ns : List Nd} (hg : GoodT ns) {a b : Nat} (ha : a < ns.length) (hb : b < ns.length) (hs : (both ns a b).length ≤ 120) (wild : Bool) : (stkOf (mg wild (tr ns a) (tr ns b)).2).length ≤ 120 := by
  have := mrg_count wild ((tr ns a).2.size + 1) (tr ns a) (tr ns b) (tr_made hg ha).wf (tr_made hg hb).wf
  unfold both at hs
  rw [List.length_append] at hs
  exact Nat.le_trans this hs
theorem mg_small {ns : List Nd} (hg : GoodT ns) {a b : Nat} (ha : a < ns.length) (hb : b < ns.length) (hs : (both ns a b).length ≤ 120) (wild : Bool) : SmL (stkOf (mg wild (tr ns a) (tr ns b)).2) := by
  have h1 := mg_len hg ha hb hs wild
  have hn := hg.1
  refine ⟨by omega, mrg_depth wild _ 100000 _ _ (fun t ht => ?_) (fun t ht => ?_)⟩
  · have := stk_depth hg.tab (a + 1) a (Nat.lt_succ_self _) ha t ht; omega
  · have := stk_depth hg.tab (b + 1) b (Nat.lt_succ_self _) hb t ht; omega
theorem mg_has {ns : List Nd} (hg : GoodT ns) {a b : Nat} (ha : a < ns.length) (hb : b < ns.length) {wild : Bool} (hap : wild = true ∨ ApartL (both ns a b)) (st : List Int) : hasW wild (stkOf (mg wild (tr ns a) (tr ns b)).2) st ↔ hasW wild (both ns a b) st := by
  unfold both
  rw [hasW_append]
  exact mrg_has wild _ (tr ns a) (tr ns b) (Nat.lt_succ_self _) (tr_made hg ha).wf (tr_made hg hb).wf hap st
end Go.Proofs.Ytcbabfndfikejaa
