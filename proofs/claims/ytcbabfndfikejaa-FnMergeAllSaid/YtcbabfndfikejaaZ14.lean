/- In one: What a merge of arrays has done so far: the list of what is merged. No program in sight. What lies in memory while a merge of arrays runs: its two rows, the choices and the cache. Condition: the choices lie in memory. -/
import Derived.Test.YtcbabfndfikejaaZ12
namespace Go.Proofs.Ytcbabfndfikejaa
open Go.RowKit
/-- what is merged: a state, the choice below it and where it lies, how many new choices it needs -/
abbrev En := Int × Kn × Nat
def kns (D : List En) : List Kn := D.map (·.2.1)
def stsD (D : List En) : List Int := D.map (·.1)
def trs (D : List En) : List Tr := D.map (·.2.1.2)
def appT : List En → Tops → Tops
  | [], t => t
  | (s, (_, k, a), _) :: l, t => .cons s k a (appT l t)
theorem appT_snoc (D : List En) (s : Int) (q : Addr) (k : Nat) (a : Tops) (c : Nat) (t : Tops) : appT (D ++ [(s, (q, k, a), c)]) t = appT D (.cons s k a t) := by
  induction D with
  | nil => rfl
  | cons x l ih => obtain ⟨s', ⟨q', k', a'⟩, c'⟩ := x; show Tops.cons _ _ _ (appT (l ++ _) t) = Tops.cons _ _ _ _; rw [ih]
theorem appT_len (D : List En) (t : Tops) : (appT D t).len = D.length + t.len := by
  induction D with
  | nil => simp [appT]
  | cons x l ih => obtain ⟨s', ⟨q', k', a'⟩, c'⟩ := x; simp only [appT, Tops.len, ih, List.length_cons]; omega
theorem appT_sts (D : List En) (t : Tops) : (appT D t).sts = stsD D ++ t.sts := by
  induction D with
  | nil => rfl
  | cons x l ih => obtain ⟨s', ⟨q', k', a'⟩, c'⟩ := x; simp only [appT, Tops.sts, ih, stsD, List.map_cons, List.cons_append]
/-! ### tops from a place on -/
def Tops.drop : Nat → Tops → Tops
  | 0, f => f
  | _ + 1, .nil => .nil
  | i + 1, .cons _ _ _ r => r.drop i
theorem Tops.drop_at : ∀ (f : Tops) (i : Nat) (s : Int) (k : Nat) (a : Tops), f.at? i = some (s, k, a) → f.drop i = .cons s k a (f.drop (i + 1))
  | .nil, _, _, _, _, h => by simp [Tops.at?] at h
  | .cons _ _ _ _, 0, _, _, _, h => by simp [Tops.at?] at h; obtain ⟨rfl, rfl, rfl⟩ := h; rfl
  | .cons _ _ _ r, i + 1, s, k, a, h => Tops.drop_at r i s k a h
theorem Tops.drop_end : ∀ (f : Tops) (i : Nat), f.len ≤ i → f.drop i = .nil
  | .nil, 0, _ => rfl
  | .nil, _ + 1, _ => rfl
  | .cons _ _ _ _, 0, h => by simp [Tops.len] at h
  | .cons _ _ _ r, i + 1, h => Tops.drop_end r i (by simp only [Tops.len] at h; omega)
theorem Tops.at_some : ∀ (f : Tops) (i : Nat), i < f.len → ∃ s k a, f.at? i = some (s, k, a)
  | .nil, _, h => by simp [Tops.len] at h
  | .cons s k a _, 0, _ => ⟨s, k, a, rfl⟩
  | .cons _ _ _ r, i + 1, h => Tops.at_some r i (by simp only [Tops.len] at h; omega)
theorem Tops.drop_size : ∀ (f : Tops) (i : Nat) (s : Int) (k : Nat) (a : Tops), f.at? i = some (s, k, a) → (f.drop i).size = a.size + (f.drop (i + 1)).size + 1
  | f, i, s, k, a, h => by rw [Tops.drop_at f i s k a h]; rfl
theorem Tops.at_list : ∀ (f : Tops) (i : Nat) (x : Int × Nat × Tops), f.at? i = some x → x ∈ f.list
  | .nil, _, _, h => by simp [Tops.at?] at h
  | .cons s k a r, 0, x, h => by simp [Tops.at?] at h; subst h; exact List.mem_cons_self ..
  | .cons _ _ _ r, i + 1, x, h => List.mem_cons_of_mem _ (Tops.at_list r i x h)
/-- How far the merge has come: i tops of the one and j of the other are done, D is what came of them. -/
structure ZI (w : Bool) (f g : Tops) (i j : Nat) (D : List En) (PD : List (Tr × Tr)) : Prop where
  hi : i ≤ f.len
  hj : j ≤ g.len
  len : D.length ≤ i + j
  zip : appT D (zipT (mg w) (f.drop i) (g.drop j)) = zipT (mg w) f g
  prs : PD ++ pairsT (f.drop i) (g.drop j) = pairsT f g
  seen : ∀ p ∈ PD, mg w p.1 p.2 ∈ trs D ∧ Wf p.1.1 p.1.2 ∧ Wf p.2.1 p.2.2
section
variable {w : Bool} {f g : Tops} {i j : Nat} {D : List En} {PD : List (Tr × Tr)} {s t : Int} {k k' : Nat} {a b : Tops} {q : Addr}
theorem ZI.start (w : Bool) (f g : Tops) : ZI w f g 0 0 [] [] := ⟨Nat.zero_le _, Nat.zero_le _, Nat.le_refl _, rfl, rfl, fun p hp => (by cases hp)⟩
theorem trs_snoc (D : List En) (x : En) : trs (D ++ [x]) = trs D ++ [x.2.1.2] := by simp [trs]
theorem ZI.left (h : ZI w f g i j D PD) (ha : f.at? i = some (s, k, a)) (hlt : ∀ t k' b, g.at? j = some (t, k', b) → s < t) : ZI w f g (i + 1) j (D ++ [(s, (q, k, a), 0)]) PD := by
  have hil : i < f.len := by
    rcases Nat.lt_or_ge i f.len with h1 | h1
    · exact h1
    · have e := Tops.drop_end f i h1
      rw [Tops.drop_at f i s k a ha] at e; cases e
  have hz : zipT (mg w) (f.drop i) (g.drop j) = .cons s k a (zipT (mg w) (f.drop (i + 1)) (g.drop j)) ∧ pairsT (f.drop i) (g.drop j) = pairsT (f.drop (i + 1)) (g.drop j) := by
    rw [Tops.drop_at f i s k a ha]
    rcases Nat.lt_or_ge j g.len with h1 | h1
    · obtain ⟨t, k', b, hb⟩ := Tops.at_some g j h1
      have := hlt t k' b hb
      rw [Tops.drop_at g j t k' b hb]
      have hne : ¬ s = t := by omega
      constructor
      · rw [zipT, if_neg hne, if_pos this]
      · rw [pairsT, if_neg hne, if_pos this]
    · rw [Tops.drop_end g j h1]
      constructor
      · rw [zipT]
        cases f.drop (i + 1) with
        | nil => rw [zipT]
        | cons => rw [zipT]
      · rw [pairsT]
        cases f.drop (i + 1) with
        | nil => rw [pairsT]
        | cons => rw [pairsT]
  refine ⟨hil, h.hj, by have := h.len; simp; omega, ?_, ?_, fun p hp => ?_⟩
  · rw [appT_snoc, ← hz.1]; exact h.zip
  · rw [← hz.2]; exact h.prs
  · rw [trs_snoc]; exact ⟨List.mem_append_left _ (h.seen p hp).1, (h.seen p hp).2⟩
theorem ZI.right (h : ZI w f g i j D PD) (hb : g.at? j = some (t, k', b)) (hlt : ∀ s k a, f.at? i = some (s, k, a) → t < s) : ZI w f g i (j + 1) (D ++ [(t, (q, k', b), 0)]) PD := by
  have hjl : j < g.len := by
    rcases Nat.lt_or_ge j g.len with h1 | h1
    · exact h1
    · have e := Tops.drop_end g j h1
      rw [Tops.drop_at g j t k' b hb] at e; cases e
  have hz : zipT (mg w) (f.drop i) (g.drop j) = .cons t k' b (zipT (mg w) (f.drop i) (g.drop (j + 1))) ∧ pairsT (f.drop i) (g.drop j) = pairsT (f.drop i) (g.drop (j + 1)) := by
    rw [Tops.drop_at g j t k' b hb]
    rcases Nat.lt_or_ge i f.len with h1 | h1
    · obtain ⟨s, k, a, ha⟩ := Tops.at_some f i h1
      have := hlt s k a ha
      rw [Tops.drop_at f i s k a ha]
      have hne : ¬ s = t := by omega
      have hnl : ¬ s < t := by omega
      constructor
      · rw [zipT, if_neg hne, if_neg hnl]
      · rw [pairsT, if_neg hne, if_neg hnl]
    · rw [Tops.drop_end f i h1]
      constructor
      · rw [zipT, zipT]
      · rw [pairsT, pairsT]
  refine ⟨h.hi, hjl, by have := h.len; simp; omega, ?_, ?_, fun p hp => ?_⟩
  · rw [appT_snoc, ← hz.1]; exact h.zip
  · rw [← hz.2]; exact h.prs
  · rw [trs_snoc]; exact ⟨List.mem_append_left _ (h.seen p hp).1, (h.seen p hp).2⟩
theorem ZI.both (h : ZI w f g i j D PD) (ha : f.at? i = some (s, k, a)) (hb : g.at? j = some (s, k', b)) (hwa : Wf k a) (hwb : Wf k' b) : ZI w f g (i + 1) (j + 1) (D ++ [(s, (q, mg w (k, a) (k', b)), 0)]) (PD ++ [((k, a), (k', b))]) := by
  have hil : i < f.len := by
    rcases Nat.lt_or_ge i f.len with h1 | h1
    · exact h1
    · have e := Tops.drop_end f i h1
      rw [Tops.drop_at f i s k a ha] at e; cases e
  have hjl : j < g.len := by
    rcases Nat.lt_or_ge j g.len with h1 | h1
    · exact h1
    · have e := Tops.drop_end g j h1
      rw [Tops.drop_at g j s k' b hb] at e; cases e
  have hz : zipT (mg w) (f.drop i) (g.drop j) = .cons s (mg w (k, a) (k', b)).1 (mg w (k, a) (k', b)).2 (zipT (mg w) (f.drop (i + 1)) (g.drop (j + 1))) ∧ pairsT (f.drop i) (g.drop j) = ((k, a), (k', b)) :: pairsT (f.drop (i + 1)) (g.drop (j + 1)) := by
    rw [Tops.drop_at f i s k a ha, Tops.drop_at g j s k' b hb]
    constructor
    · rw [zipT, if_pos rfl]
    · rw [pairsT, if_pos rfl]
  refine ⟨hil, hjl, by have := h.len; simp; omega, ?_, ?_, fun p hp => ?_⟩
  · show appT (D ++ [(s, (q, (mg w (k, a) (k', b)).1, (mg w (k, a) (k', b)).2), 0)]) _ = _
    rw [appT_snoc, ← hz.1]; exact h.zip
  · rw [← h.prs, hz.2]; simp
  · rw [trs_snoc]
    rcases List.mem_append.1 hp with hp | hp
    · exact ⟨List.mem_append_left _ (h.seen p hp).1, (h.seen p hp).2⟩
    · simp at hp; subst hp
      exact ⟨List.mem_append_right _ (by simp), hwa, hwb⟩
theorem ZI.stop (h : ZI w f g f.len g.len D PD) : appT D .nil = zipT (mg w) f g := by
  have h1 := h.zip
  rw [Tops.drop_end f _ (Nat.le_refl _), Tops.drop_end g _ (Nat.le_refl _), zipT] at h1
  exact h1
end
/-! ### what is done lies in memory -/
def DOk (RD : Tr → Prop) (w : World) (Z : Nat → Prop) (S : List Addr) (D : List En) : Prop := ∀ x ∈ D, Rep w Z x.2.1.1 x.2.1.2.1 x.2.1.2.2 ∧ Wf x.2.1.2.1 x.2.1.2.2 ∧ ∃ E : List Addr, Fine RD w Z E ∧ x.2.1.1 ∈ S ++ E ∧ ClX w Z (S ++ E)
theorem DOk.move {RD : Tr → Prop} {w w' : World} {Z Z' : Nat → Prop} {S : List Addr} {D : List En} (h : DOk RD w Z S D) (hm : Move Z Z' w w') : DOk RD w' Z' S D := fun x hx => by
  obtain ⟨h1, h2, E, h3, h4, h5⟩ := h x hx
  exact ⟨h1.move hm, h2, E, h3.move hm, h4, h5.move hm⟩
theorem DOk.snoc {RD : Tr → Prop} {w : World} {Z : Nat → Prop} {S : List Addr} {D : List En} {x : En} (h : DOk RD w Z S D) (h1 : Rep w Z x.2.1.1 x.2.1.2.1 x.2.1.2.2) (h2 : Wf x.2.1.2.1 x.2.1.2.2) {E : List Addr} (h3 : Fine RD w Z E) (h4 : x.2.1.1 ∈ S ++ E) (h5 : ClX w Z (S ++ E)) : DOk RD w Z S (D ++ [x]) := fun y hy => by
  rcases List.mem_append.1 hy with hy | hy
  · exact h y hy
  · simp at hy; subst hy
    exact ⟨h1, h2, E, h3, h4, h5⟩
theorem ClX.union {w : World} {Z : Nat → Prop} {S E F : List Addr} (h : ClX w Z (S ++ E)) (k : ClX w Z (S ++ F)) : ClX w Z (S ++ (E ++ F)) := fun q hq => by
  rw [← List.append_assoc] at hq
  rcases List.mem_append.1 hq with hq | hq
  · obtain ⟨g, k', h', ss, qs, h1, h2, h3⟩ := h q hq
    exact ⟨g, k', h', ss, qs, h1, h2, fun x hx => by rw [← List.append_assoc]; exact List.mem_append_left _ (h3 x hx)⟩
  · obtain ⟨g, k', h', ss, qs, h1, h2, h3⟩ := k q (List.mem_append_right _ hq)
    exact ⟨g, k', h', ss, qs, h1, h2, fun x hx => by
      rcases List.mem_append.1 (h3 x hx) with h | h
      · exact List.mem_append_left _ h
      · exact List.mem_append_right _ (List.mem_append_right _ h)⟩
theorem fstK_mem {l : List Kn} {x : Kn} (h : ∃ y ∈ l, y.2 = x.2) : ∃ y ∈ l, y.2 = x.2 ∧ fstK l x.2.1 x.2.2 = some y.1 := by
  obtain ⟨y, hy, e⟩ := h
  unfold fstK
  cases hf : l.find? (treeIs x.2.1 x.2.2) with
  | none =>
    have := List.find?_eq_none.1 hf y hy
    exact absurd (decide_eq_true e) this
  | some z =>
    exact ⟨z, List.mem_of_find?_eq_some hf, of_decide_eq_true (p := z.2 = (x.2.1, x.2.2)) (List.find?_some (p := treeIs x.2.1 x.2.2) hf), rfl⟩
theorem fstK_none {l : List Kn} {x : Kn} (h : ¬ ∃ y ∈ l, y.2 = x.2) : fstK l x.2.1 x.2.2 = none := by
  unfold fstK
  have : l.find? (treeIs x.2.1 x.2.2) = none := List.find?_eq_none.2 (fun y hy ht => h ⟨y, hy, of_decide_eq_true (p := y.2 = (x.2.1, x.2.2)) ht⟩)
  rw [this]
  rfl
/-- For each the first that is equal: all of these and what is below them. -/
theorem DOk.close {RD : Tr → Prop} {w : World} {Z : Nat → Prop} {S : List Addr} (hcl : ClX w Z S) : ∀ (n : Nat) (D : List En), D.length = n → DOk RD w Z S D → ∃ E : List Addr, Fine RD w Z E ∧ ClX w Z (S ++ E) ∧ ∀ x ∈ D, fstOf (kns D) x.2.1 ∈ S ++ E
  | 0, D, hn, _ => by
    rw [List.eq_nil_of_length_eq_zero hn]
    exact ⟨[], Fine.nil, by simpa using hcl, fun x hx => by cases hx⟩
  | n + 1, D, hn, h => by
    rcases List.eq_nil_or_concat D with e | ⟨D0, x, e⟩
    · rw [e] at hn; cases hn
    · rw [List.concat_eq_append] at e
      subst e
      obtain ⟨E, h1, h2, h3⟩ := DOk.close hcl n D0 (by simpa using hn) (fun y hy => h y (List.mem_append_left _ hy))
      have hk : kns (D0 ++ [x]) = kns D0 ++ [x.2.1] := by simp [kns]
      have old : ∀ y : En, (∃ z ∈ kns D0, z.2 = y.2.1.2) → fstOf (kns D0 ++ [x.2.1]) y.2.1 ∈ S ++ E := by
        intro y hy
        obtain ⟨z, hz, he, hf⟩ := fstK_mem (x := y.2.1) hy
        obtain ⟨u, hu, rfl⟩ := List.mem_map.1 hz
        have h4 := h3 u hu
        unfold fstOf at h4 ⊢
        rw [fstK_append, hf]
        have : fstK (kns D0) u.2.1.2.1 u.2.1.2.2 = some u.2.1.1 := by rw [he]; exact hf
        rw [this] at h4
        exact h4
      rw [hk]
      by_cases hx : x.2.1.2 ∈ trs D0
      · obtain ⟨u, hu, he⟩ := List.mem_map.1 hx
        refine ⟨E, h1, h2, fun y hy => ?_⟩
        rcases List.mem_append.1 hy with hy | hy
        · exact old y ⟨y.2.1, List.mem_map_of_mem hy, rfl⟩
        · simp at hy; subst hy
          exact old y ⟨u.2.1, List.mem_map_of_mem hu, he⟩
      · obtain ⟨_, _, F, g1, g2, g3⟩ := h x (List.mem_append_right _ (by simp))
        refine ⟨E ++ F, h1.append g1, h2.union g3, fun y hy => ?_⟩
        rcases List.mem_append.1 hy with hy | hy
        · have := old y ⟨y.2.1, List.mem_map_of_mem hy, rfl⟩
          rw [← List.append_assoc]; exact List.mem_append_left _ this
        · simp at hy; subst hy
          have hn0 : fstK (kns D0) y.2.1.2.1 y.2.1.2.2 = none := fstK_none (fun ⟨z, hz, he⟩ => by
            obtain ⟨u, hu, rfl⟩ := List.mem_map.1 hz
            exact hx (he ▸ List.mem_map_of_mem hu))
          unfold fstOf
          rw [fstK_append, hn0, fstK_one, if_pos rfl]
          show y.2.1.1 ∈ _
          rcases List.mem_append.1 g2 with h | h
          · exact List.mem_append_left _ h
          · exact List.mem_append_right _ (List.mem_append_right _ h)
/-- What is done lies below the tops of the whole. -/
theorem DOk.subs {RD : Tr → Prop} {w : World} {Z : Nat → Prop} {S : List Addr} : ∀ (D : List En), DOk RD w Z S D → Subs w Z (appT D .nil) (adr (kns D))
  | [], _ => rfl
  | (s, (q, k, a), c) :: l, h => by
    obtain ⟨⟨g, e, qs, h1, h2⟩, _⟩ := h _ (List.mem_cons_self ..)
    exact ⟨g, adr (kns l), by simp only at e; subst e; rfl, ⟨qs, h1, h2⟩, DOk.subs l (fun x hx => h x (List.mem_cons_of_mem _ hx))⟩
/-- .. also where each gives way to the first that is equal. -/
theorem DOk.subs_fst {RD : Tr → Prop} {w : World} {Z : Nat → Prop} {S : List Addr} {T : List En} (hT : DOk RD w Z S T) : ∀ (D : List En), (∀ x ∈ D, x ∈ T) → Subs w Z (appT D .nil) ((kns D).map (fstOf (kns T)))
  | [], _ => rfl
  | x :: l, h => by
    have hx := h x (List.mem_cons_self ..)
    obtain ⟨z, hz, he, hf⟩ := fstK_mem (l := kns T) (x := x.2.1) ⟨x.2.1, List.mem_map_of_mem hx, rfl⟩
    obtain ⟨u, hu, rfl⟩ := List.mem_map.1 hz
    obtain ⟨⟨g, e, qs, h1, h2⟩, _⟩ := hT u hu
    obtain ⟨s, ⟨q, k, a⟩, c⟩ := x
    simp only at he
    rw [he] at h1 h2
    have e2 : fstOf (kns T) (q, k, a) = ⟨g, 0, none⟩ := by unfold fstOf; rw [hf]; exact e
    exact ⟨g, (kns l).map (fstOf (kns T)), by rw [← e2]; rfl, ⟨qs, h1, h2⟩, DOk.subs_fst hT l (fun x hx => h x (List.mem_cons_of_mem _ hx))⟩
/-- the tops of what is done -/
theorem appT_at : ∀ (D : List En) (i : Nat) (s : Int) (k : Nat) (a : Tops), (appT D .nil).at? i = some (s, k, a) → ∃ q c, D[i]? = some (s, (q, k, a), c)
  | [], i, s, k, a, h => by simp [appT, Tops.at?] at h
  | (s', (q, k', a'), c) :: l, 0, s, k, a, h => by
    simp [appT, Tops.at?] at h
    obtain ⟨rfl, rfl, rfl⟩ := h
    exact ⟨q, c, rfl⟩
  | (s', (q, k', a'), c) :: l, i + 1, s, k, a, h => by
    have h' : (appT l .nil).at? i = some (s, k, a) := h
    obtain ⟨q, c, e⟩ := appT_at l i s k a h'
    exact ⟨q, c, e⟩
/-- equal trees have the same first one -/
theorem fst_same {T : List En} {i j : Nat} {s s' : Int} {k : Nat} {a : Tops} (h1 : (appT T .nil).at? i = some (s, k, a)) (h2 : (appT T .nil).at? j = some (s', k, a)) : ((kns T).map (fstOf (kns T)))[i]? = ((kns T).map (fstOf (kns T)))[j]? := by
  obtain ⟨q, c, e1⟩ := appT_at T i s k a h1
  obtain ⟨q', c', e2⟩ := appT_at T j s' k a h2
  have m1 : (kns T)[i]? = some (q, k, a) := by simp [kns, e1]
  have m2 : (kns T)[j]? = some (q', k, a) := by simp [kns, e2]
  rw [List.getElem?_map, List.getElem?_map, m1, m2]
  obtain ⟨z, hz, he, hf⟩ := fstK_mem (l := kns T) (x := (q, k, a)) ⟨_, List.mem_of_getElem? m1, rfl⟩
  have f1 : fstOf (kns T) (q, k, a) = z.1 := by unfold fstOf; rw [hf]; rfl
  have f2 : fstOf (kns T) (q', k, a) = z.1 := by unfold fstOf; simp only at hf ⊢; rw [hf]; rfl
  show some (fstOf (kns T) (q, k, a)) = some (fstOf (kns T) (q', k, a))
  rw [f1, f2]
end Go.Proofs.Ytcbabfndfikejaa
namespace Go.Proofs.Ytcbabfndfikejaa
open Go.RowKit
set_option linter.unusedSimpArgs false
/-- the rows of a merge, filled as far as D goes -/
def pRow (N : Nat) (D : List En) : Array Value := (ptrs (adr (kns D)) ++ List.replicate (N - D.length) (Value.pointer none)).toArray
def sRow (N : Nat) (D : List En) : Array Value := (ints (stsD D) ++ List.replicate (N - D.length) (Value.int .i64 0)).toArray
theorem adr_len (D : List En) : (ptrs (adr (kns D))).length = D.length := by simp [ptrs, adr, kns]
theorem sts_len (D : List En) : (ints (stsD D)).length = D.length := by simp [ints, stsD]
theorem set_next {u z : Value} {xs : List Value} {m : Nat} (hm : 0 < m) : ((xs ++ List.replicate m z).toArray).setIfInBounds xs.length u = ((xs ++ [u]) ++ List.replicate (m - 1) z).toArray := by
  obtain ⟨m, rfl⟩ : ∃ k, m = k + 1 := ⟨m - 1, by omega⟩
  rw [List.setIfInBounds_toArray, List.set_append_right _ _ (Nat.le_refl _), Nat.sub_self, List.replicate_succ, List.set_cons_zero]
  simp
theorem pRow_set {N : Nat} {D : List En} {x : En} (h : D.length < N) : (pRow N D).setIfInBounds D.length (.pointer (some x.2.1.1)) = pRow N (D ++ [x]) := by
  have := set_next (u := .pointer (some x.2.1.1)) (z := .pointer none) (xs := ptrs (adr (kns D))) (m := N - D.length) (by omega)
  rw [adr_len] at this
  unfold pRow
  rw [this]
  have e : ptrs (adr (kns (D ++ [x]))) = ptrs (adr (kns D)) ++ [.pointer (some x.2.1.1)] := by simp [ptrs, adr, kns]
  rw [e, List.length_append, List.length_singleton, Nat.sub_sub]
theorem sRow_set {N : Nat} {D : List En} {x : En} (h : D.length < N) : (sRow N D).setIfInBounds D.length (.int .i64 x.1) = sRow N (D ++ [x]) := by
  have := set_next (u := .int .i64 x.1) (z := .int .i64 0) (xs := ints (stsD D)) (m := N - D.length) (by omega)
  rw [sts_len] at this
  unfold sRow
  rw [this]
  have e : ints (stsD (D ++ [x])) = ints (stsD D) ++ [.int .i64 x.1] := by simp [ints, stsD]
  rw [e, List.length_append, List.length_singleton, Nat.sub_sub]
theorem pRow_nil (N : Nat) : madeCells #[Value.pointer none] N = pRow N [] := by
  apply Array.toList_inj.1
  have h := toList_madeCells_one (.pointer none) N
  rw [h]
  simp [pRow, ptrs, adr, kns]
theorem sRow_nil (N : Nat) : madeCells #[Value.int .i64 0] N = sRow N [] := by
  apply Array.toList_inj.1
  have h := toList_madeCells_one (.int .i64 0) N
  rw [h]
  simp [sRow, ints, stsD]
theorem pRow_size {N : Nat} {D : List En} (h : D.length ≤ N) : (pRow N D).size = N := by
  unfold pRow; rw [List.size_toArray, List.length_append, adr_len, List.length_replicate]; omega
theorem pRow_take {N : Nat} {D : List En} : (pRow N D).toList.take D.length = ptrs (adr (kns D)) := by
  unfold pRow
  rw [List.take_append_of_le_length (by rw [adr_len]; exact Nat.le_refl _), List.take_of_length_le (by rw [adr_len]; exact Nat.le_refl _)]
theorem pRow_at {N : Nat} {D : List En} {j : Nat} {u : Value} (h : (ptrs (adr (kns D)))[j]? = some u) : (pRow N D)[j]? = some u := by
  unfold pRow
  rw [List.getElem?_toArray, List.getElem?_append_left (List.getElem?_eq_some_iff.1 h).1]
  exact h
theorem sRow_at {N : Nat} {D : List En} {j : Nat} {u : Value} (h : (ints (stsD D))[j]? = some u) : (sRow N D)[j]? = some u := by
  unfold sRow
  rw [List.getElem?_toArray, List.getElem?_append_left (List.getElem?_eq_some_iff.1 h).1]
  exact h
theorem pRow_end {N : Nat} {D : List En} (h : D.length < N) : (pRow N D)[D.length]? = some (.pointer none) := by
  unfold pRow
  rw [List.getElem?_toArray, List.getElem?_append_right (by rw [adr_len]; exact Nat.le_refl _), adr_len, Nat.sub_self, List.getElem?_replicate, if_pos (by omega)]
theorem sRow_end {N : Nat} {D : List En} (h : D.length < N) : (sRow N D)[D.length]? = some (.int .i64 0) := by
  unfold sRow
  rw [List.getElem?_toArray, List.getElem?_append_right (by rw [sts_len]; exact Nat.le_refl _), sts_len, Nat.sub_self, List.getElem?_replicate, if_pos (by omega)]
/-- the rows of a merge are not among what the choices lie in -/
def Zr (Z : Nat → Prop) (rb rs : Nat) : Nat → Prop := fun j => Z j ∨ j = rb ∨ j = rs
/-- Memory while a merge of arrays runs; M is how many of the row's N cells are in use. -/
structure AM (S : List Addr) (RD : Tr → Prop) (I : (Nat → Prop) → Nat → (Nat → Prop) → World → Prop) (Z Φ : Nat → Prop) (f g : Tops) (p q : Addr) (N rb rs gm : Nat) (w0 : World) (M : Nat) (D : List En) (L : Nat) (Φ1 : Nat → Prop) (w : World) : Prop where
  hg : w.heap[gm]? = some (.cells #[.slice (some ⟨rb, 0, none⟩) M N] 73 (0, 0))
  hb : w.heap[rb]? = some (.cells (pRow N D) 72 (0, 0))
  hs : w.heap[rs]? = some (.cells (sRow N D) 3 (0, 0))
  dok : DOk RD w (Zr Z rb rs) S D
  cl : ClX w (Zr Z rb rs) S
  hp : KOX w (Zr Z rb rs) p 2 f
  hq : KOX w (Zr Z rb rs) q 2 g
  kp : KidIn w (Zr Z rb rs) p S
  kq : KidIn w (Zr Z rb rs) q S
  ci : I (Zr Z rb rs) L Φ1 w
  ph : ∀ j, Φ1 j → Φ j ∨ w0.heap.size ≤ j
  pn : ∀ j, (j = rb ∨ j = rs ∨ j = gm) → ¬ Φ1 j
  ch : Chg Φ w0 w
  st : Stay w0 w
  old : w0.heap.size ≤ rb ∧ w0.heap.size ≤ rs ∧ w0.heap.size ≤ gm
  ne : rb ≠ rs ∧ gm ≠ rb ∧ gm ≠ rs
  oz : OldX Z w0
section
variable {S : List Addr} {RD : Tr → Prop} {I : (Nat → Prop) → Nat → (Nat → Prop) → World → Prop} {Z Φ : Nat → Prop} {f g : Tops} {p q : Addr} {N rb rs gm : Nat} {w0 : World} {M : Nat} {D : List En} {L : Nat} {Φ1 : Nat → Prop} {w w' : World}
theorem AM.lt (h : AM S RD I Z Φ f g p q N rb rs gm w0 M D L Φ1 w) : rb < w.heap.size ∧ rs < w.heap.size ∧ gm < w.heap.size :=
  ⟨(Array.getElem?_eq_some_iff.1 h.hb).1, (Array.getElem?_eq_some_iff.1 h.hs).1, (Array.getElem?_eq_some_iff.1 h.hg).1⟩
theorem AM.nz (h : AM S RD I Z Φ f g p q N rb rs gm w0 M D L Φ1 w) : ¬ Z rb ∧ ¬ Z rs :=
  ⟨fun hz => by have := h.oz _ hz; have := h.old.1; omega, fun hz => by have := h.oz _ hz; have := h.old.2.1; omega⟩
theorem AM.oldX (h : AM S RD I Z Φ f g p q N rb rs gm w0 M D L Φ1 w) : OldX (Zr Z rb rs) w := fun j hj => by
  rcases hj with hj | rfl | rfl
  · exact Nat.lt_of_lt_of_le (h.oz j hj) h.st.1
  · exact h.lt.1
  · exact h.lt.2.1
/-- A call has been made that keeps the cache. -/
theorem AM.call {L' : Nat} {Φ' : Nat → Prop} (h : AM S RD I Z Φ f g p q N rb rs gm w0 M D L Φ1 w) (hi : I (Zr Z rb rs) L' Φ' w') (hΦ : ∀ j, Φ' j → Φ1 j ∨ w.heap.size ≤ j) (hc : Chg Φ1 w w') (hs : Stay w w') : AM S RD I Z Φ f g p q N rb rs gm w0 M D L' Φ' w' := by
  have hm := hs.move (Zr Z rb rs)
  obtain ⟨l1, l2, l3⟩ := h.lt
  have hsz := h.ch.size
  refine ⟨hc.heap h.hg (h.pn _ (.inr (.inr rfl))), hc.heap h.hb (h.pn _ (.inl rfl)), hc.heap h.hs (h.pn _ (.inr (.inl rfl))), h.dok.move hm, h.cl.move hm, h.hp.move hm, h.hq.move hm, h.kp.move hm, h.kq.move hm, hi, fun j hj => ?_, fun j hj hj' => ?_, h.ch.trans hc (fun j hj hx => ?_), h.st.trans hs, h.old, h.ne, h.oz⟩
  · rcases hΦ j hj with h1 | h1
    · exact h.ph j h1
    · exact .inr (by omega)
  · rcases hΦ j hj' with h1 | h1
    · exact h.pn j hj h1
    · rcases hj with rfl | rfl | rfl <;> omega
  · rcases h.ph j hx with h1 | h1
    · exact h1
    · omega
theorem AM.below (hI : CacheI I) (h : AM S RD I Z Φ f g p q N rb rs gm w0 M D L Φ1 w) (hb : Below w.heap.size w w') : AM S RD I Z Φ f g p q N rb rs gm w0 M D L Φ1 w' :=
  h.call (hI.below h.ci hb) (fun _ hj => .inl hj) (Chg.of_below hb) (Stay.of_below hb)
theorem AM.mono (hI : CacheI I) {L' : Nat} (h : AM S RD I Z Φ f g p q N rb rs gm w0 M D L Φ1 w) (hL : L ≤ L') : AM S RD I Z Φ f g p q N rb rs gm w0 M D L' Φ1 w :=
  ⟨h.hg, h.hb, h.hs, h.dok, h.cl, h.hp, h.hq, h.kp, h.kq, hI.mono h.ci hL, h.ph, h.pn, h.ch, h.st, h.old, h.ne, h.oz⟩
/-- what is outside the rows stays -/
theorem move_rows (hc : Chg (fun j => j = rb ∨ j = rs ∨ j = gm) w w') (hgm : ∀ cs e, w.heap[gm]? = some (.cells cs e (0, 0)) → ¬ ctxTy e) : Move (Zr Z rb rs) (Zr Z rb rs) w w' := fun j cs e he hx hj => by
  refine ⟨hc.heap hj ?_, hx⟩
  rintro (rfl | rfl | rfl)
  · exact hx (.inr (.inl rfl))
  · exact hx (.inr (.inr rfl))
  · exact hgm cs e hj he
theorem AM.gmTy (h : AM S RD I Z Φ f g p q N rb rs gm w0 M D L Φ1 w) : ∀ cs e, w.heap[gm]? = some (.cells cs e (0, 0)) → ¬ ctxTy e := fun cs e hj he => by
  rw [h.hg] at hj; cases hj; simp [ctxTy] at he
/-- The rows have been written to. -/
theorem AM.rows (hI : CacheI I) {M' : Nat} {D' : List En} (h : AM S RD I Z Φ f g p q N rb rs gm w0 M D L Φ1 w) (hc : Chg (fun j => j = rb ∨ j = rs ∨ j = gm) w w') (hg' : w'.heap[gm]? = some (.cells #[.slice (some ⟨rb, 0, none⟩) M' N] 73 (0, 0)))
    (hb' : w'.heap[rb]? = some (.cells (pRow N D') 72 (0, 0))) (hs' : w'.heap[rs]? = some (.cells (sRow N D') 3 (0, 0))) (hd : DOk RD w (Zr Z rb rs) S D') : AM S RD I Z Φ f g p q N rb rs gm w0 M' D' L Φ1 w' := by
  have hm := move_rows (Z := Z) hc h.gmTy
  obtain ⟨o1, o2, o3⟩ := h.old
  have hbl : Below w0.heap.size w w' := hc.below (fun j hj => by rcases hj with rfl | rfl | rfl <;> assumption) h.ch.size
  refine ⟨hg', hb', hs', hd.move hm, h.cl.move hm, h.hp.move hm, h.hq.move hm, h.kp.move hm, h.kq.move hm, hI.chg h.ci hc hm (fun j hj hx => h.pn j hx hj), h.ph, h.pn, h.ch.trans hc (fun j hj hx => ?_), ?_, h.old, h.ne, h.oz⟩
  · rcases hx with rfl | rfl | rfl <;> omega
  · exact ⟨Nat.le_trans h.st.1 hc.size, fun j cs e he hj => (hbl.block j (Array.getElem?_eq_some_iff.1 hj).1).trans (h.st.2 j cs e he hj)⟩
/-- the two stores of a round -/
theorem AM.store (hI : CacheI I) (h : AM S RD I Z Φ f g p q N rb rs gm w0 M D L Φ1 w) (hN : D.length < N) (x : En) (h1 : Rep w (Zr Z rb rs) x.2.1.1 x.2.1.2.1 x.2.1.2.2) (h2 : Wf x.2.1.2.1 x.2.1.2.2) {E : List Addr} (h3 : Fine RD w (Zr Z rb rs) E) (h4 : x.2.1.1 ∈ S ++ E) (h5 : ClX w (Zr Z rb rs) (S ++ E)) :
    (w.frozen? ⟨rb, D.length, none⟩ = false ∧ w.cell? ⟨rb, D.length, none⟩ = some (.pointer none)) ∧ w.cell? ⟨gm, 0, none⟩ = some (.slice (some ⟨rb, 0, none⟩) M N) ∧
    ∃ wx, w.setCell ⟨rb, D.length, none⟩ (.pointer (some x.2.1.1)) = wx ∧ Move (Zr Z rb rs) (Zr Z rb rs) w wx ∧ (wx.frozen? ⟨rs, D.length, none⟩ = false ∧ wx.cell? ⟨rs, D.length, none⟩ = some (.int .i64 0)) ∧
    ∃ wy, wx.setCell ⟨rs, D.length, none⟩ (.int .i64 x.1) = wy ∧ AM S RD I Z Φ f g p q N rb rs gm w0 M (D ++ [x]) L Φ1 wy := by
  obtain ⟨n1, n2, n3⟩ := h.ne
  refine ⟨⟨by simp [World.frozen?, h.hb], (cell_of h.hb _).trans (pRow_end hN)⟩, cell_of h.hg 0, _, rfl, ?_, ?_, _, rfl, ?_⟩
  · refine move_rows ((Chg.of_grown (set_grown w rb D.length _)).mono (fun j hj => .inl (Option.some.inj hj))) h.gmTy
  · have : (w.setCell ⟨rb, D.length, none⟩ (.pointer (some x.2.1.1))).heap[rs]? = some (.cells (sRow N D) 3 (0, 0)) := (Below.heap_setCell _ _ _ _ (fun e => n1 e.symm)).trans h.hs
    exact ⟨by simp [World.frozen?, this], (cell_of this _).trans (sRow_end hN)⟩
  · have hs1 : (w.setCell ⟨rb, D.length, none⟩ (.pointer (some x.2.1.1))).heap[rs]? = some (.cells (sRow N D) 3 (0, 0)) := (Below.heap_setCell _ _ _ _ (fun e => n1 e.symm)).trans h.hs
    have hb1 : (w.setCell ⟨rb, D.length, none⟩ (.pointer (some x.2.1.1))).heap[rb]? = some (.cells (pRow N (D ++ [x])) 72 (0, 0)) := by rw [heap_setCell_same w rb D.length _ _ _ h.hb, pRow_set hN]
    have hg1 : (w.setCell ⟨rb, D.length, none⟩ (.pointer (some x.2.1.1))).heap[gm]? = some (.cells #[.slice (some ⟨rb, 0, none⟩) M N] 73 (0, 0)) := (Below.heap_setCell _ _ _ _ n2).trans h.hg
    refine h.rows hI ?_ ((Below.heap_setCell _ _ _ _ n3).trans hg1) ((Below.heap_setCell _ _ _ _ n1).trans hb1) ?_ (h.dok.snoc h1 h2 h3 h4 h5)
    · exact ((Chg.of_grown (set_grown w rb D.length _)).mono (fun j hj => .inl (Option.some.inj hj))).trans ((Chg.of_grown (set_grown _ rs D.length _)).mono (Y := fun j => j = rb ∨ j = rs ∨ j = gm) (fun j hj => .inr (.inl (Option.some.inj hj)))) (fun _ _ h => h)
    · rw [heap_setCell_same _ rs D.length _ _ _ hs1, sRow_set hN]
/-- The row of what is below is cut to what is in use. -/
theorem AM.trim (hI : CacheI I) (h : AM S RD I Z Φ f g p q N rb rs gm w0 M D L Φ1 w) (M' : Nat) : w.frozen? ⟨gm, 0, none⟩ = false ∧ w.cell? ⟨gm, 0, none⟩ = some (.slice (some ⟨rb, 0, none⟩) M N) ∧ AM S RD I Z Φ f g p q N rb rs gm w0 M' D L Φ1 (w.setCell ⟨gm, 0, none⟩ (.slice (some ⟨rb, 0, none⟩) M' N)) := by
  obtain ⟨n1, n2, n3⟩ := h.ne
  refine ⟨by simp [World.frozen?, h.hg], cell_of h.hg 0, h.rows hI ((Chg.of_grown (set_grown w gm 0 _)).mono (fun j hj => .inr (.inr (Option.some.inj hj)))) ?_ ((Below.heap_setCell _ _ _ _ (Ne.symm n2)).trans h.hb) ((Below.heap_setCell _ _ _ _ (Ne.symm n3)).trans h.hs) h.dok⟩
  rw [heap_setCell_same w gm 0 _ _ _ h.hg]; rfl
/-- the rows are forgotten -/
theorem thin (Z : Nat → Prop) (rb rs : Nat) (w : World) : Move (Zr Z rb rs) Z w w := fun _ _ _ _ hx hj => ⟨hj, fun hz => hx (.inl hz)⟩
theorem wide {Z : Nat → Prop} {rb rs : Nat} {w w' : World} (hs : Stay w w') (h1 : w.heap.size ≤ rb) (h2 : w.heap.size ≤ rs) : Move Z (Zr Z rb rs) w w' := fun j cs e he hx hj => by
  have hlt := (Array.getElem?_eq_some_iff.1 hj).1
  refine ⟨hs.2 j cs e he hj, ?_⟩
  rintro (h | rfl | rfl)
  · exact hx h
  · omega
  · omega
/-- The one of two is handed back. -/
theorem AM.same (hI : CacheI I) {t : Tr} (h : AM S RD I Z Φ f g p q N rb rs gm w0 M D L Φ1 w) {r : Addr} (hr : Rep w (Zr Z rb rs) r t.1 t.2) (hk : r ∈ S) : MO S t RD I Z L Φ w0 r w := by
  have hm := thin Z rb rs w
  exact MO.old hk (h.cl.move hm) (hr.move hm) (hI.chg h.ci (Chg.refl (fun _ => False) w) hm (fun _ _ h => h)) h.ph h.ch h.st
end
/-- NewArrayPredictionContext, and where all of it lies -/
def NewPostC (A A' : Option Addr) (c c' : Nat) (f : Tops) (w : World) (e : Ending) (w' : World) : Prop :=
  e = .returned (.pointer (some ⟨w.heap.size, 0, none⟩)) ∧ w' = w.alloc (.cells #[.int .i64 (hsh 2 f), .int .i64 2, .pointer none, .int .i64 0, .slice A f.len c, .slice A' f.len c'] 97)
set_option maxHeartbeats 1000000 in
theorem NewArrayC_any (A A' : Option Addr) (c c' : Nat) (f : Tops) (qs : List Addr) (w : World) (hp : Row w NoX 72 A f.len (ptrs qs)) (hq : Row w NoX 3 A' f.len (ints f.sts)) (hsub : Subs w NoX f qs) (hm : f.len ≤ 1000) :
    Calls Try.prog 66 #[.slice A f.len c, .slice A' f.len c'] w (NewPostC A A' c c' f w) := by
  have HS := Lib.hid hsub
  have HP := Lib.hid hp
  have HQ := Lib.hid hq
  have hql := Subs.length _ _ hsub
  have hpl : f.hs.length = f.len := f.hs_length
  have hsl : f.sts.length = f.len := f.sts_length
  have HQL := Lib.hid hql
  have HPL := Lib.hid hpl
  have HSL := Lib.hid hsl
  clear hsub hp hq hql hpl hsl
  go_enter Try.func66, Try.ntmps66
  go_wp2_with (go_at_call 47; refine (murmurInit_any _ _).mono ?_; rintro e w' ⟨rfl, rfl⟩)
  go_loop [5, 14] (fun h i => ∃ k : Nat, k ≤ f.len ∧ i = .int .i64 k ∧ h = .int .i64 (murL 1 (f.hs.take k))) (fun _ i => f.len - (intOf i).toNat)
  case atStart => exact ⟨0, Nat.zero_le _, rfl, rfl⟩
  case round =>
    obtain ⟨k, hk, rfl, rfl⟩ := hrel
    by_cases hlt : k < f.len
    · obtain ⟨b, off, u, rfl, _, hu, hc⟩ := HP.out.reads.at1 hlt
      obtain ⟨q, hqk, rfl⟩ := ptrs_at hu
      obtain ⟨k1, sub, hrep, hhs⟩ := subs_hash HS.out hqk
      have HR := Lib.hid hrep
      have HH := Lib.hid (take_snoc' f.hs k _ hhs)
      clear hu hqk hrep hhs
      go_wp2_with (first
        | (go_at_call 53; refine (Hash_any _ _ _ _ _ HR.out).mono ?_; rintro e w' ⟨rfl, rfl⟩)
        | (go_at_call 48; refine (murmurUpdate_any _ _ _).mono ?_; rintro e w' ⟨rfl, rfl⟩))
      go_round
      case rel => exact ⟨k + 1, by omega, by go_num, by rw [HH.out, murL_snoc]⟩
      case measure => simp [intOf]; omega
    · have hkn : k = f.len := by omega
      have HK := Lib.hid (show murL 1 (f.hs.take k) = murL 1 f.hs by rw [hkn, ← HPL.out, List.take_length])
      clear hkn
      rw [HK.out]
      go_wp2_with fail
      go_loop [5, 25] (fun h i => ∃ k : Nat, k ≤ f.len ∧ i = .int .i64 k ∧ h = .int .i64 (murL (murL 1 f.hs) (f.sts.take k))) (fun _ i => f.len - (intOf i).toNat)
      case atStart => exact ⟨0, Nat.zero_le _, rfl, rfl⟩
      case round =>
        obtain ⟨j, hj, rfl, rfl⟩ := hrel
        by_cases hlt2 : j < f.len
        · obtain ⟨b, off, u, rfl, _, hu, hc⟩ := HQ.out.reads.at1 hlt2
          obtain ⟨s, hs, rfl⟩ := ints_at hu
          have HH := Lib.hid (take_snoc' f.sts j _ hs)
          clear hu hs
          go_wp2_with (go_at_call 48; refine (murmurUpdate_any _ _ _).mono ?_; rintro e w' ⟨rfl, rfl⟩)
          go_round
          case rel => exact ⟨j + 1, by omega, by go_num, by rw [HH.out, murL_snoc]⟩
          case measure => simp [intOf]; omega
        · have hjn : j = f.len := by omega
          have HK2 := Lib.hid (show murL (murL 1 f.hs) (f.sts.take j) = murL (murL 1 f.hs) f.sts by rw [hjn, ← HSL.out, List.take_length])
          clear hjn
          rw [HK2.out]
          go_wp2_with (go_at_call 49; refine (murmurFinish_any _ _ _).mono ?_; rintro e w' ⟨rfl, rfl⟩)
          go_ret
          exact ⟨rfl, by rw [hsh_array, Int.mul_comm 2]⟩
theorem NewArrayCN_any (A A' : Option Addr) (c c' n : Nat) (f : Tops) (qs : List Addr) (w : World) (hn : f.len = n) (hp : Row w NoX 72 A n (ptrs qs)) (hq : Row w NoX 3 A' n (ints f.sts)) (hsub : Subs w NoX f qs) (hm : n ≤ 1000) :
    Calls Try.prog 66 #[.slice A n c, .slice A' n c'] w (NewPostC A A' c c' f w) := by
  subst hn
  exact NewArrayC_any A A' c c' f qs w hp hq hsub hm
section
variable {S : List Addr} {RD : Tr → Prop} {I : (Nat → Prop) → Nat → (Nat → Prop) → World → Prop} {Z Φ : Nat → Prop} {f g : Tops} {p q : Addr} {N rb rs gm : Nat} {w0 : World} {M : Nat} {D : List En} {L : Nat} {Φ1 : Nat → Prop} {w w' : World}
/-- the tops that have been merged -/
theorem tops_len (D : List En) : (appT D .nil).len = D.length := by rw [appT_len]; rfl
theorem tops_sts (D : List En) : (appT D .nil).sts = stsD D := by rw [appT_sts]; simp [Tops.sts]
theorem AM.prow (h : AM S RD I Z Φ f g p q N rb rs gm w0 M D L Φ1 w) {X : Nat → Prop} (hX : ¬ X rb) : Row w X 72 (some ⟨rb, 0, none⟩) D.length (ptrs (adr (kns D))) :=
  ⟨adr_len D, fun _ => ⟨rb, 0, _, rfl, hX, h.hb, fun j u hu => by rw [Nat.zero_add]; exact pRow_at hu⟩⟩
theorem AM.srow (h : AM S RD I Z Φ f g p q N rb rs gm w0 M D L Φ1 w) {X : Nat → Prop} (hX : ¬ X rs) : Row w X 3 (some ⟨rs, 0, none⟩) D.length (ints (appT D .nil).sts) := by
  rw [tops_sts]
  exact ⟨sts_len D, fun _ => ⟨rs, 0, _, rfl, hX, h.hs, fun j u hu => by rw [Nat.zero_add]; exact sRow_at hu⟩⟩
theorem AM.wf (h : AM S RD I Z Φ f g p q N rb rs gm w0 M D L Φ1 w) : ∀ x ∈ D, Wf x.2.1.2.1 x.2.1.2.2 := fun x hx => (h.dok x hx).2.1
/-- The array that has been made. -/
theorem AM.made (hI : CacheI I) (h : AM S RD I Z Φ f g p q N rb rs gm w0 M D L Φ1 w) (hw : w' = w.alloc (.cells #[.int .i64 (hsh 2 (appT D .nil)), .int .i64 2, .pointer none, .int .i64 0, .slice (some ⟨rb, 0, none⟩) (appT D .nil).len N, .slice (some ⟨rs, 0, none⟩) (appT D .nil).len N] 97)) :
    AM S RD I Z Φ f g p q N rb rs gm w0 M D L Φ1 w' ∧ Rep w' NoX ⟨w.heap.size, 0, none⟩ 2 (appT D .nil) ∧ w'.heap[w.heap.size]? = some (.cells #[.int .i64 (hsh 2 (appT D .nil)), .int .i64 2, .pointer none, .int .i64 0, .slice (some ⟨rb, 0, none⟩) D.length N, .slice (some ⟨rs, 0, none⟩) D.length N] 97 (0, 0)) := by
  have hb : Below w.heap.size w w' := by rw [hw]; exact (Below.refl _ _).alloc (Nat.le_refl _) _
  have h' := h.below hI hb
  have hc : w'.heap[w.heap.size]? = some (.cells #[.int .i64 (hsh 2 (appT D .nil)), .int .i64 2, .pointer none, .int .i64 0, .slice (some ⟨rb, 0, none⟩) D.length N, .slice (some ⟨rs, 0, none⟩) D.length N] 97 (0, 0)) := by
    rw [hw, tops_len]; exact heap_alloc_new w _
  refine ⟨h', ⟨w.heap.size, rfl, adr (kns D), ⟨fun h => h, ?_, .inr (.inr ⟨rfl, some ⟨rb, 0, none⟩, N, some ⟨rs, 0, none⟩, N, ?_, ?_, ?_⟩)⟩, DOk.subs D (h'.dok.move (Z' := NoX) (fun _ _ _ _ _ hj => ⟨hj, fun h => h⟩))⟩, hc⟩
  · rw [tops_sts]; simp [adr, kns, stsD]
  · rw [hc, tops_sts]; simp [stsD]
  · have := h'.prow (X := NoX) (fun h => h)
    rw [tops_sts]; simpa [stsD] using this
  · have := h'.srow (X := NoX) (fun h => h)
    rw [tops_sts] at this ⊢; simpa [stsD] using this
/-- What is below has been made one where it is equal: the array is handed back. -/
theorem AM.fin (hI : CacheI I) {gM : Nat} {t : Tr} (h : AM S RD I Z Φ f g p q N rb rs gm w0 M D L Φ1 w) (hM : w.heap[gM]? = some (.cells #[.int .i64 (hsh 2 (appT D .nil)), .int .i64 2, .pointer none, .int .i64 0, .slice (some ⟨rb, 0, none⟩) D.length N, .slice (some ⟨rs, 0, none⟩) D.length N] 97 (0, 0)))
    (hZM : ¬ Z gM) (ho : w'.ownsRow w0.heap.size 72 1 (.slice (some ⟨rb, 0, none⟩) (kns D).length N) (kns D).length (ptrs ((kns D).map (fstOf (kns D))))) (hgr : w.grownBy w' (some rb)) (ht : t = (2, appT D .nil)) (hrd : RD t) : MO S t RD I Z L Φ w0 ⟨gM, 0, none⟩ w' := by
  obtain ⟨n1, n2, n3⟩ := h.ne
  have hkl : (kns D).length = D.length := by simp [kns]
  have hc : Chg (fun j => j = rb ∨ j = rs ∨ j = gm) w w' := (Chg.of_grown hgr).mono (fun j hj => .inl (Option.some.inj hj))
  have hm0 := move_rows (Z := Z) hc h.gmTy
  have hm : Move (Zr Z rb rs) Z w w' := hm0.trans (thin Z rb rs w')
  have hgM : gM ≠ rb := by
    rintro rfl
    rw [h.hb] at hM
    injection hM with e
    injection e with _ e2
    exact absurd e2 (by decide)
  have hM' : w'.heap[gM]? = some (.cells #[.int .i64 (hsh 2 (appT D .nil)), .int .i64 2, .pointer none, .int .i64 0, .slice (some ⟨rb, 0, none⟩) D.length N, .slice (some ⟨rs, 0, none⟩) D.length N] 97 (0, 0)) := (hgr.block gM (Array.getElem?_eq_some_iff.1 hM).1 (fun e => hgM (Option.some.inj e))).trans hM
  have hs' : w'.heap[rs]? = some (.cells (sRow N D) 3 (0, 0)) := (hgr.block rs h.lt.2.1 (fun e => n1 (Option.some.inj e).symm)).trans h.hs
  obtain ⟨nz1, nz2⟩ := h.nz
  have hrow : Row w' Z 72 (some ⟨rb, 0, none⟩) (kns D).length (ptrs ((kns D).map (fstOf (kns D)))) := Row.of_own ho (fun j hj => by
    have : j = rb := by simpa [Value.ownBlock] using hj.symm
    rw [this]; exact nz1)
  obtain ⟨E, e1, e2, e3⟩ := DOk.close (h.cl.move hm) D.length D rfl (h.dok.move hm)
  have hsub := DOk.subs_fst (h.dok.move hm) D (fun x hx => hx)
  have hsl : (appT D .nil).sts.length = D.length := by rw [tops_sts]; simp [stsD]
  have hshape : Shape w' Z gM 2 (hsh 2 (appT D .nil)) (appT D .nil).sts ((kns D).map (fstOf (kns D))) := by
    refine ⟨hZM, by rw [hsl, List.length_map, hkl], .inr (.inr ⟨rfl, some ⟨rb, 0, none⟩, N, some ⟨rs, 0, none⟩, N, by rw [hsl]; exact hM', by rw [hsl, ← hkl]; exact hrow, ?_⟩)⟩
    rw [hsl, tops_sts]
    exact ⟨sts_len D, fun _ => ⟨rs, 0, _, rfl, nz2, hs', fun j u hu => by rw [Nat.zero_add]; exact sRow_at hu⟩⟩
  have hbl : Below w0.heap.size w w' := hc.below (fun j hj => by rcases hj with rfl | rfl | rfl; exact h.old.1; exact h.old.2.1; exact h.old.2.2) h.ch.size
  have hrep : Rep w' Z ⟨gM, 0, none⟩ t.1 t.2 := by rw [ht]; exact ⟨gM, rfl, _, hshape, hsub⟩
  refine ⟨E ++ [⟨gM, 0, none⟩], Φ1, e1.append (Fine.one hrep hrd ?_), by simp, ?_, hrep, hI.chg h.ci hc hm (fun j hj hx => h.pn j hx hj), h.ph, h.ch.trans hc (fun j hj hx => ?_), ⟨Nat.le_trans h.st.1 hc.size, fun j cs e he hj => (hbl.block j (Array.getElem?_eq_some_iff.1 hj).1).trans (h.st.2 j cs e he hj)⟩⟩
  · rw [ht]
    exact ⟨gM, 2, _, _, _, rfl, hshape, fun i j s s' k1 a h1 h2 => fst_same h1 h2⟩
  · rw [← List.append_assoc]
    refine e2.snoc ⟨_, ⟨gM, 2, _, _, rfl, hshape⟩, fun x hx => ?_⟩
    obtain ⟨y, hy, rfl⟩ := List.mem_map.1 hx
    obtain ⟨z, hz, rfl⟩ := List.mem_map.1 hy
    exact e3 z hz
  · obtain ⟨o1, o2, o3⟩ := h.old
    rcases hx with rfl | rfl | rfl <;> omega
/-- the row for the walk that makes equal ones one -/
theorem AM.own (h : AM S RD I Z Φ f g p q N rb rs gm w0 D.length D L Φ1 w) (hK : D.length ≤ N) (hN : N ≤ 1000) : w.ownsRow w0.heap.size 72 1 (.slice (some ⟨rb, 0, none⟩) (kns D).length N) (kns D).length (ptrs (adr (kns D))) ∧ w.heap[gm]? = some (.cells #[.slice (some ⟨rb, 0, none⟩) (kns D).length N] 73 (0, 0)) ∧ AllX w (fun x => x = rb) (kns D) := by
  have hkl : (kns D).length = D.length := by simp [kns]
  refine ⟨⟨by rw [adr_len, hkl, Nat.mul_one], .inr ⟨rb, N, pRow N D, rfl, h.old.1, h.hb, by omega, by unfold maxLen; omega, by rw [pRow_size hK, Nat.mul_one], by rw [hkl, Nat.mul_one]; exact pRow_take⟩⟩, by rw [hkl]; exact h.hg, fun y hy => ?_⟩
  obtain ⟨z, hz, rfl⟩ := List.mem_map.1 hy
  obtain ⟨h1, h2, _⟩ := h.dok z hz
  exact ⟨h1.move (fun _ _ _ _ hx hj => ⟨hj, fun e => hx (.inr (.inl e))⟩), h2⟩
/-- What is merged is one: a choice with one top. -/
theorem AM.one (hI : CacheI I) {t : Tr} {x : En} {r : Addr} (h : AM S RD I Z Φ f g p q N rb rs gm w0 M [x] L Φ1 w) (hp : NewPostK Z 1 (.cons x.1 x.2.1.2.1 x.2.1.2.2 .nil) [x.2.1.1] w (.returned (.pointer (some r))) w') (ht : t = (1, appT [x] .nil)) (hrd : RD t) : MO S t RD I Z L Φ w0 r w' := by
  obtain ⟨r', e, h1, h2, _, hb⟩ := hp
  cases e
  have hm := thin Z rb rs w
  obtain ⟨_, _, E, e1, e2, e3⟩ := h.dok x (List.mem_singleton.2 rfl)
  exact MO.new hI (e1.move hm) (e3.move hm) (hI.chg h.ci (Chg.refl (fun _ => False) w) hm (fun _ _ h => h)) h.ph h.ch h.st hb ⟨_, h2, fun y hy => by rw [List.mem_singleton.1 hy]; exact e2⟩ (by rw [ht]; exact h1) hrd (by rw [ht]; exact Shr.one1 h2)
end
/-! ### reading the two arrays -/
theorem Move.refl (Z : Nat → Prop) (w : World) : Move Z Z w w := fun _ _ _ _ hx hj => ⟨hj, hx⟩
theorem Row.at1 {w : World} {X : Nat → Prop} {e : TypeId} {A : Option Addr} {n j : Nat} {xs : List Value} {u : Value} (h : Row w X e A n xs) (hj : xs[j]? = some u) (he : ctxTy e) : ∃ b off, A = some ⟨b, off, none⟩ ∧ ∀ w', Move X X w w' → w'.cell? ⟨b, off + j, none⟩ = some u := by
  have hn : 0 < n := by have := (List.getElem?_eq_some_iff.1 hj).1; have := h.1; omega
  obtain ⟨g, off, cs, e1, e2, e3, e4⟩ := h.2 hn
  exact ⟨g, off, e1, fun w' hm => by rw [cell_of_row _ _ _ _ _ _ (hm g cs e he e2 e3).1]; exact e4 j u hj⟩
/-- how many tops, in any later world -/
theorem KOX.lens {w : World} {Z : Nat → Prop} {p : Addr} {f : Tops} (h : KOX w Z p 2 f) : ∃ ga, p = ⟨ga, 0, none⟩ ∧ ∃ A c A' c', ∀ w', Move Z Z w w' → w'.cell? ⟨ga, 4, none⟩ = some (.slice A f.len c) ∧ w'.cell? ⟨ga, 5, none⟩ = some (.slice A' f.len c') := by
  obtain ⟨ga, A, c, A', c', qs, e, hz, _, _, hg, _⟩ := h.1.cells2
  exact ⟨ga, e, A, c, A', c', fun w' hm => ⟨cell_of (hm _ _ _ (.inl rfl) hz hg).1 4, cell_of (hm _ _ _ (.inl rfl) hz hg).1 5⟩⟩
/-- top i and what is below it, in any later world -/
theorem KOX.read {w : World} {Z : Nat → Prop} {ga i k : Nat} {f a : Tops} {s : Int} {S : List Addr} (h : KOX w Z ⟨ga, 0, none⟩ 2 f) (hk : KidIn w Z ⟨ga, 0, none⟩ S) (hat : f.at? i = some (s, k, a)) :
    ∃ (b off c b' off' c' : Nat) (q : Addr), q ∈ S ∧ Rep w Z q k a ∧ ∀ w', Move Z Z w w' → w'.cell? ⟨ga, 4, none⟩ = some (.slice (some ⟨b, off, none⟩) f.len c) ∧ w'.cell? ⟨ga, 5, none⟩ = some (.slice (some ⟨b', off', none⟩) f.len c') ∧
      w'.cell? ⟨b, off + i, none⟩ = some (.pointer (some q)) ∧ w'.cell? ⟨b', off' + i, none⟩ = some (.int .i64 s) := by
  obtain ⟨g0, A, c, A', c', qs, e, hz, hql, hsub, hg, hr1, hr2⟩ := h.1.cells2
  cases e
  have hil : i < f.len := by
    rcases Nat.lt_or_ge i f.len with h1 | h1
    · exact h1
    · have e := Tops.drop_end f i h1
      rw [Tops.drop_at f i s k a hat] at e; cases e
  have hq := List.getElem?_eq_getElem (show i < qs.length by omega)
  generalize qs[i] = q at hq
  obtain ⟨s1, k1, sub, h1, h2⟩ := Subs.at_ f qs i q hsub hq
  rw [hat] at h1; cases h1
  obtain ⟨b, off, e1, e2⟩ := hr1.at1 (u := .pointer (some q)) (j := i) (by simp [ptrs, hq]) (.inr (.inl rfl))
  obtain ⟨b', off', e3, e4⟩ := hr2.at1 (u := .int .i64 s) (j := i) (by simp [ints, (Tops.at_hs f i s k a hat).2]) (.inr (.inr rfl))
  subst e1
  subst e3
  obtain ⟨rs, ⟨g1, k1, h1', ss, e5, hs5⟩, hin⟩ := hk
  cases e5
  have hS0 : Shape w Z ga 2 (hsh 2 f) f.sts qs := by
    rw [← Tops.sts_length] at hg hr1 hr2 hql
    exact ⟨hz, hql, .inr (.inr ⟨rfl, _, _, _, _, hg, hr1, hr2⟩)⟩
  obtain ⟨_, _, e6⟩ := hS0.unique hs5
  refine ⟨b, off, c, b', off', c', q, hin q (by rw [← e6]; exact List.mem_of_getElem? hq), h2, fun w' hm => ⟨cell_of (hm _ _ _ (.inl rfl) hz hg).1 4, cell_of (hm _ _ _ (.inl rfl) hz hg).1 5, e2 w' hm, e4 w' hm⟩⟩
/-- The rows have been made. -/
theorem AM.start {S : List Addr} {RD : Tr → Prop} {I : (Nat → Prop) → Nat → (Nat → Prop) → World → Prop} {Z Φ : Nat → Prop} {f g : Tops} {p q : Addr} {N rb rs gm : Nat} {w w' : World} {L : Nat} (hI : CacheI I) (hZ : OldX Z w) (hi : I Z L Φ w) (hp : KOX w Z p 2 f) (hq : KOX w Z q 2 g) (kp : KidIn w Z p S) (kq : KidIn w Z q S) (hcl : ClX w Z S)
    (hb : Below w.heap.size w w') (h1 : w'.heap[gm]? = some (.cells #[.slice (some ⟨rb, 0, none⟩) N N] 73 (0, 0))) (h2 : w'.heap[rb]? = some (.cells (pRow N []) 72 (0, 0))) (h3 : w'.heap[rs]? = some (.cells (sRow N []) 3 (0, 0)))
    (o1 : w.heap.size ≤ rb) (o2 : w.heap.size ≤ rs) (o3 : w.heap.size ≤ gm) (n1 : rb ≠ rs) (n2 : gm ≠ rb) (n3 : gm ≠ rs) : AM S RD I Z Φ f g p q N rb rs gm w N [] L Φ w' := by
  have hm := wide (Z := Z) (Stay.of_below hb) o1 o2
  refine ⟨h1, h2, h3, fun x hx => (by cases hx), hcl.move hm, hp.move hm, hq.move hm, kp.move hm, kq.move hm, hI.chg hi (Chg.of_below (X := fun _ => False) hb) hm (fun _ _ h => h), fun j hj => .inl hj, fun j hj hj' => ?_, Chg.of_below hb, Stay.of_below hb, ⟨o1, o2, o3⟩, ⟨n1, n2, n3⟩, hZ⟩
  have := hI.lt hi j hj'
  rcases hj with rfl | rfl | rfl <;> omega
/-- the row and the cell that holds it, made the one way or the other -/
theorem two_rows (N : Nat) (w : World) : Below w.heap.size w (((w.alloc (.cells (pRow N []) 72)).alloc (.cells #[.slice (some ⟨w.heap.size, 0, none⟩) N N] 73)).drew) ∧ (((w.alloc (.cells (pRow N []) 72)).alloc (.cells #[.slice (some ⟨w.heap.size, 0, none⟩) N N] 73)).drew).heap[w.heap.size + 1]? = some (.cells #[.slice (some ⟨w.heap.size, 0, none⟩) N N] 73 (0, 0)) ∧
    (((w.alloc (.cells (pRow N []) 72)).alloc (.cells #[.slice (some ⟨w.heap.size, 0, none⟩) N N] 73)).drew).heap[w.heap.size]? = some (.cells (pRow N []) 72 (0, 0)) ∧ w.heap.size ≤ w.heap.size ∧ w.heap.size ≤ w.heap.size + 1 ∧ w.heap.size + 1 ≠ w.heap.size :=
  ⟨below_drew' (below_alloc' (below_alloc' (Below.refl _ _) _) _), heap_new' (by simp), (heap_old' (by simp)).trans (heap_new' rfl), by omega, by omega, by omega⟩
theorem two_rows' (N : Nat) (w : World) : Below w.heap.size w (((w.alloc (.cells #[.slice (some ⟨w.heap.size + 1, 0, none⟩) N N] 73)).alloc (.cells (pRow N []) 72)).drew) ∧ (((w.alloc (.cells #[.slice (some ⟨w.heap.size + 1, 0, none⟩) N N] 73)).alloc (.cells (pRow N []) 72)).drew).heap[w.heap.size]? = some (.cells #[.slice (some ⟨w.heap.size + 1, 0, none⟩) N N] 73 (0, 0)) ∧
    (((w.alloc (.cells #[.slice (some ⟨w.heap.size + 1, 0, none⟩) N N] 73)).alloc (.cells (pRow N []) 72)).drew).heap[w.heap.size + 1]? = some (.cells (pRow N []) 72 (0, 0)) ∧ w.heap.size ≤ w.heap.size + 1 ∧ w.heap.size ≤ w.heap.size ∧ w.heap.size ≠ w.heap.size + 1 :=
  ⟨below_drew' (below_alloc' (below_alloc' (Below.refl _ _) _) _), (heap_old' (by simp)).trans (heap_new' rfl), heap_new' (by simp), by omega, by omega, by omega⟩
theorem zip_wf {m : Tr → Tr → Tr} : ∀ (f g : Tops), f.wf → g.wf → (∀ s k a k' b, (s, k, a) ∈ f.list → (s, k', b) ∈ g.list → Wf (m (k, a) (k', b)).1 (m (k, a) (k', b)).2) → (zipT m f g).wf
  | .nil, g, _, h2, _ => by rw [zipT]; exact h2
  | .cons s k a r, .nil, h1, _, _ => by rw [zipT]; exact h1
  | .cons s k a r, .cons t k' b r', h1, h2, h => by
    rw [zipT]
    split
    · rename_i e
      subst e
      have hm := h s k a k' b (List.mem_cons_self ..) (List.mem_cons_self ..)
      exact ⟨h1.1, hm.1, hm.2, zip_wf r r' h1.2.2.2 h2.2.2.2 (fun s k a k' b g1 g2 => h s k a k' b (List.mem_cons_of_mem _ g1) (List.mem_cons_of_mem _ g2))⟩
    · split
      · exact ⟨h1.1, h1.2.1, h1.2.2.1, zip_wf r (.cons t k' b r') h1.2.2.2 h2 (fun s k a k' b g1 g2 => h s k a k' b (List.mem_cons_of_mem _ g1) g2)⟩
      · exact ⟨h2.1, h2.2.1, h2.2.2.1, zip_wf (.cons s k a r) r' h1 h2.2.2.2 (fun s k a k' b g1 g2 => h s k a k' b g1 (List.mem_cons_of_mem _ g2))⟩
termination_by f g => f.len + g.len
decreasing_by all_goals (simp only [Tops.len]; omega)
/-- what is known of the tops that have been merged -/
structure Done (w : Bool) (f g : Tops) (D : List En) : Prop where
  tops : appT D .nil = zipT (mg w) f g
  len : D.length ≤ f.len + g.len
  pos : 0 < f.len + g.len → 1 ≤ D.length
  wf : D.length ≤ 1000 → 1 ≤ D.length → Wf 2 (appT D .nil)
theorem ZI.done {w : Bool} {f g : Tops} {D : List En} {PD : List (Tr × Tr)} (h : ZI w f g f.len g.len D PD) (hf : f.wf) (hg : g.wf) (mf : ∀ s k a, (s, k, a) ∈ f.list → (0 ≤ s ∧ s ≤ 1000) ∧ Made 64 (k, a)) (mg' : ∀ s k a, (s, k, a) ∈ g.list → (0 ≤ s ∧ s ≤ 1000) ∧ Made 64 (k, a)) : Done w f g D := by
  have h1 := h.stop
  have hz := zip_len (m := mg w) f g
  rw [← h1, tops_len] at hz
  refine ⟨h1, hz.2.2, fun hp => by omega, fun hl hp => ⟨.inr (.inr ⟨rfl, by rw [tops_len]; omega, by rw [tops_len]; exact hl⟩), ?_⟩⟩
  rw [h1]
  exact zip_wf f g hf hg (fun s k a k' b g1 g2 => (mrg_made w (show 64 + 64 ≤ 1000 by decide) _ _ _ (mf s k a g1).2 (mg' s k' b g2).2).wf)
theorem Done.array {w : Bool} {f g : Tops} {D : List En} (h : Done w f g D) (h1 : D.length = 1 → f.len + g.len ≤ 1) : mgA w f g = (2, appT D .nil) := by
  unfold mgA mkM
  rw [← h.tops, tops_len, if_neg (by omega)]
theorem Done.single {w : Bool} {f g : Tops} {D : List En} (h : Done w f g D) (h1 : D.length = 1) (h2 : 1 < f.len + g.len) : mgA w f g = (1, appT D .nil) := by
  unfold mgA mkM
  rw [← h.tops, tops_len, if_pos ⟨h1, h2⟩]
end Go.Proofs.Ytcbabfndfikejaa
