/- What a merge of arrays has done so far: the list of what is merged, with what each costs. No program in sight. -/
import Derived.Test.YtcbabfndfikejaaMo
namespace Go.Proofs.Ytcbabfndfikejaa
open Go.RowKit

/-- what is merged: a state, the choice below it and where it lies, how many new choices it needs -/
abbrev En := Int × Kn × Nat
def kns (D : List En) : List Kn := D.map (·.2.1)
def stsD (D : List En) : List Int := D.map (·.1)
def trs (D : List En) : List Tr := D.map (·.2.1.2)
def appT : List En → Tops → Tops
  | [], t => t
  | (s, (_, k, a), _) :: l, t => .cons s k a (appT l t)
/-- the cost of all, each tree once -/
def fsA (seen : List Tr) : List En → Nat
  | [] => 0
  | x :: l => (if x.2.1.2 ∈ seen then 0 else x.2.2) + fsA (x.2.1.2 :: seen) l
theorem appT_snoc (D : List En) (s : Int) (q : Addr) (k : Nat) (a : Tops) (c : Nat) (t : Tops) : appT (D ++ [(s, (q, k, a), c)]) t = appT D (.cons s k a t) := by
  induction D with
  | nil => rfl
  | cons x l ih => obtain ⟨s', ⟨q', k', a'⟩, c'⟩ := x; show Tops.cons _ _ _ (appT (l ++ _) t) = Tops.cons _ _ _ _; rw [ih]
theorem appT_len (D : List En) (t : Tops) : (appT D t).len = D.length + t.len := by
  induction D with
  | nil => simp [appT]
  | cons x l ih => obtain ⟨s', ⟨q', k', a'⟩, c'⟩ := x; simp only [appT, Tops.len, ih, List.length_cons]; omega
theorem appT_sts (D : List En) (t : Tops) : (appT D t).sts = stsD D ++ t.sts := by
  induction D with
  | nil => rfl
  | cons x l ih => obtain ⟨s', ⟨q', k', a'⟩, c'⟩ := x; simp only [appT, Tops.sts, ih, stsD, List.map_cons, List.cons_append]
theorem fsA_snoc (D : List En) (x : En) : ∀ seen, fsA seen (D ++ [x]) = fsA seen D + if x.2.1.2 ∈ seen ∨ x.2.1.2 ∈ trs D then 0 else x.2.2 := by
  induction D with
  | nil => intro seen; simp [fsA, trs]
  | cons y l ih =>
    intro seen
    rw [List.cons_append]
    unfold fsA
    rw [ih, Nat.add_assoc]
    congr 2
    simp only [trs, List.map_cons, List.mem_cons]
    have : ((x.2.1.2 = y.2.1.2 ∨ x.2.1.2 ∈ seen) ∨ x.2.1.2 ∈ l.map (·.2.1.2)) ↔ (x.2.1.2 ∈ seen ∨ x.2.1.2 = y.2.1.2 ∨ x.2.1.2 ∈ l.map (·.2.1.2)) := by
      rw [or_assoc, or_left_comm]
    simp only [this]
theorem psum_snoc (c : Tr → Tr → Nat) (l : List (Tr × Tr)) (p : Tr × Tr) : ∀ seen, psum c seen (l ++ [p]) = psum c seen l + if (p ∈ seen ∨ p ∈ l) ∨ ((p.2, p.1) ∈ seen ∨ (p.2, p.1) ∈ l) then 0 else c p.1 p.2 := by
  induction l with
  | nil => intro seen; simp [psum]
  | cons y l ih =>
    intro seen
    rw [List.cons_append]
    unfold psum
    rw [ih, Nat.add_assoc]
    congr 2
    simp only [List.mem_cons]
    have e1 : ((p = y ∨ p ∈ seen) ∨ p ∈ l) ↔ (p ∈ seen ∨ p = y ∨ p ∈ l) := by rw [or_assoc, or_left_comm]
    have e2 : (((p.2, p.1) = y ∨ (p.2, p.1) ∈ seen) ∨ (p.2, p.1) ∈ l) ↔ ((p.2, p.1) ∈ seen ∨ (p.2, p.1) = y ∨ (p.2, p.1) ∈ l) := by rw [or_assoc, or_left_comm]
    simp only [e1, e2]

/-! ### tops from a place on -/
def Tops.drop : Nat → Tops → Tops
  | 0, f => f
  | _ + 1, .nil => .nil
  | i + 1, .cons _ _ _ r => r.drop i
theorem Tops.drop_at : ∀ (f : Tops) (i : Nat) (s : Int) (k : Nat) (a : Tops), f.at? i = some (s, k, a) → f.drop i = .cons s k a (f.drop (i + 1))
  | .nil, _, _, _, _, h => by simp [Tops.at?] at h
  | .cons _ _ _ _, 0, _, _, _, h => by simp [Tops.at?] at h; obtain ⟨rfl, rfl, rfl⟩ := h; rfl
  | .cons _ _ _ r, i + 1, s, k, a, h => Tops.drop_at r i s k a h
theorem Tops.drop_end : ∀ (f : Tops) (i : Nat), f.len ≤ i → f.drop i = .nil
  | .nil, 0, _ => rfl
  | .nil, _ + 1, _ => rfl
  | .cons _ _ _ _, 0, h => by simp [Tops.len] at h
  | .cons _ _ _ r, i + 1, h => Tops.drop_end r i (by simp only [Tops.len] at h; omega)
theorem Tops.at_some : ∀ (f : Tops) (i : Nat), i < f.len → ∃ s k a, f.at? i = some (s, k, a)
  | .nil, _, h => by simp [Tops.len] at h
  | .cons s k a _, 0, _ => ⟨s, k, a, rfl⟩
  | .cons _ _ _ r, i + 1, h => Tops.at_some r i (by simp only [Tops.len] at h; omega)
theorem Tops.drop_size : ∀ (f : Tops) (i : Nat) (s : Int) (k : Nat) (a : Tops), f.at? i = some (s, k, a) → (f.drop i).size = a.size + (f.drop (i + 1)).size + 1
  | f, i, s, k, a, h => by rw [Tops.drop_at f i s k a h]; rfl
theorem Tops.at_list : ∀ (f : Tops) (i : Nat) (x : Int × Nat × Tops), f.at? i = some x → x ∈ f.list
  | .nil, _, _, h => by simp [Tops.at?] at h
  | .cons s k a r, 0, x, h => by simp [Tops.at?] at h; subst h; exact List.mem_cons_self ..
  | .cons _ _ _ r, i + 1, x, h => List.mem_cons_of_mem _ (Tops.at_list r i x h)

/-- How far the merge has come: i tops of the one and j of the other are done, D is what came of them. -/
structure ZI (w : Bool) (f g : Tops) (i j : Nat) (D : List En) (PD : List (Tr × Tr)) : Prop where
  hi : i ≤ f.len
  hj : j ≤ g.len
  len : D.length ≤ i + j
  zip : appT D (zipT (mg w) (f.drop i) (g.drop j)) = zipT (mg w) f g
  prs : PD ++ pairsT (f.drop i) (g.drop j) = pairsT f g
  seen : ∀ p ∈ PD, mg w p.1 p.2 ∈ trs D ∧ Wf p.1.1 p.1.2 ∧ Wf p.2.1 p.2.2
  cost : fsA [] D ≤ psum (cn w) [] PD
section
variable {w : Bool} {f g : Tops} {i j : Nat} {D : List En} {PD : List (Tr × Tr)} {s t : Int} {k k' : Nat} {a b : Tops} {q : Addr}
theorem ZI.start (w : Bool) (f g : Tops) : ZI w f g 0 0 [] [] := ⟨Nat.zero_le _, Nat.zero_le _, Nat.le_refl _, rfl, rfl, fun p hp => (by cases hp), Nat.le_refl _⟩
theorem trs_snoc (D : List En) (x : En) : trs (D ++ [x]) = trs D ++ [x.2.1.2] := by simp [trs]
theorem ZI.left (h : ZI w f g i j D PD) (ha : f.at? i = some (s, k, a)) (hlt : ∀ t k' b, g.at? j = some (t, k', b) → s < t) : ZI w f g (i + 1) j (D ++ [(s, (q, k, a), 0)]) PD := by
  have hil : i < f.len := by
    rcases Nat.lt_or_ge i f.len with h1 | h1
    · exact h1
    · have e := Tops.drop_end f i h1
      rw [Tops.drop_at f i s k a ha] at e; cases e
  have hz : zipT (mg w) (f.drop i) (g.drop j) = .cons s k a (zipT (mg w) (f.drop (i + 1)) (g.drop j)) ∧ pairsT (f.drop i) (g.drop j) = pairsT (f.drop (i + 1)) (g.drop j) := by
    rw [Tops.drop_at f i s k a ha]
    rcases Nat.lt_or_ge j g.len with h1 | h1
    · obtain ⟨t, k', b, hb⟩ := Tops.at_some g j h1
      have := hlt t k' b hb
      rw [Tops.drop_at g j t k' b hb]
      have hne : ¬ s = t := by omega
      constructor
      · rw [zipT, if_neg hne, if_pos this]
      · rw [pairsT, if_neg hne, if_pos this]
    · rw [Tops.drop_end g j h1]
      constructor
      · rw [zipT]
        cases f.drop (i + 1) with
        | nil => rw [zipT]
        | cons => rw [zipT]
      · rw [pairsT]
        cases f.drop (i + 1) with
        | nil => rw [pairsT]
        | cons => rw [pairsT]
  refine ⟨hil, h.hj, by have := h.len; simp; omega, ?_, ?_, fun p hp => ?_, ?_⟩
  · rw [appT_snoc, ← hz.1]; exact h.zip
  · rw [← hz.2]; exact h.prs
  · rw [trs_snoc]; exact ⟨List.mem_append_left _ (h.seen p hp).1, (h.seen p hp).2⟩
  · rw [fsA_snoc]; have := h.cost; simp only [ite_self]; omega
theorem ZI.right (h : ZI w f g i j D PD) (hb : g.at? j = some (t, k', b)) (hlt : ∀ s k a, f.at? i = some (s, k, a) → t < s) : ZI w f g i (j + 1) (D ++ [(t, (q, k', b), 0)]) PD := by
  have hjl : j < g.len := by
    rcases Nat.lt_or_ge j g.len with h1 | h1
    · exact h1
    · have e := Tops.drop_end g j h1
      rw [Tops.drop_at g j t k' b hb] at e; cases e
  have hz : zipT (mg w) (f.drop i) (g.drop j) = .cons t k' b (zipT (mg w) (f.drop i) (g.drop (j + 1))) ∧ pairsT (f.drop i) (g.drop j) = pairsT (f.drop i) (g.drop (j + 1)) := by
    rw [Tops.drop_at g j t k' b hb]
    rcases Nat.lt_or_ge i f.len with h1 | h1
    · obtain ⟨s, k, a, ha⟩ := Tops.at_some f i h1
      have := hlt s k a ha
      rw [Tops.drop_at f i s k a ha]
      have hne : ¬ s = t := by omega
      have hnl : ¬ s < t := by omega
      constructor
      · rw [zipT, if_neg hne, if_neg hnl]
      · rw [pairsT, if_neg hne, if_neg hnl]
    · rw [Tops.drop_end f i h1]
      constructor
      · rw [zipT, zipT]
      · rw [pairsT, pairsT]
  refine ⟨h.hi, hjl, by have := h.len; simp; omega, ?_, ?_, fun p hp => ?_, ?_⟩
  · rw [appT_snoc, ← hz.1]; exact h.zip
  · rw [← hz.2]; exact h.prs
  · rw [trs_snoc]; exact ⟨List.mem_append_left _ (h.seen p hp).1, (h.seen p hp).2⟩
  · rw [fsA_snoc]; have := h.cost; simp only [ite_self]; omega
theorem ZI.both (h : ZI w f g i j D PD) (ha : f.at? i = some (s, k, a)) (hb : g.at? j = some (s, k', b)) (hwa : Wf k a) (hwb : Wf k' b) {c : Nat} (hc : c ≤ cn w (k, a) (k', b)) : ZI w f g (i + 1) (j + 1) (D ++ [(s, (q, mg w (k, a) (k', b)), c)]) (PD ++ [((k, a), (k', b))]) := by
  have hil : i < f.len := by
    rcases Nat.lt_or_ge i f.len with h1 | h1
    · exact h1
    · have e := Tops.drop_end f i h1
      rw [Tops.drop_at f i s k a ha] at e; cases e
  have hjl : j < g.len := by
    rcases Nat.lt_or_ge j g.len with h1 | h1
    · exact h1
    · have e := Tops.drop_end g j h1
      rw [Tops.drop_at g j s k' b hb] at e; cases e
  have hz : zipT (mg w) (f.drop i) (g.drop j) = .cons s (mg w (k, a) (k', b)).1 (mg w (k, a) (k', b)).2 (zipT (mg w) (f.drop (i + 1)) (g.drop (j + 1))) ∧ pairsT (f.drop i) (g.drop j) = ((k, a), (k', b)) :: pairsT (f.drop (i + 1)) (g.drop (j + 1)) := by
    rw [Tops.drop_at f i s k a ha, Tops.drop_at g j s k' b hb]
    constructor
    · rw [zipT, if_pos rfl]
    · rw [pairsT, if_pos rfl]
  refine ⟨hil, hjl, by have := h.len; simp; omega, ?_, ?_, fun p hp => ?_, ?_⟩
  · show appT (D ++ [(s, (q, (mg w (k, a) (k', b)).1, (mg w (k, a) (k', b)).2), c)]) _ = _
    rw [appT_snoc, ← hz.1]; exact h.zip
  · rw [← h.prs, hz.2]; simp
  · rw [trs_snoc]
    rcases List.mem_append.1 hp with hp | hp
    · exact ⟨List.mem_append_left _ (h.seen p hp).1, (h.seen p hp).2⟩
    · simp at hp; subst hp
      exact ⟨List.mem_append_right _ (by simp), hwa, hwb⟩
  · rw [fsA_snoc, psum_snoc]
    have h0 := h.cost
    have key : (((k, a), (k', b)) ∈ PD ∨ ((k', b), (k, a)) ∈ PD) → mg w (k, a) (k', b) ∈ trs D := by
      rintro (h1 | h1)
      · exact (h.seen _ h1).1
      · have := (h.seen _ h1).1
        rwa [mg_comm hwb hwa] at this
    by_cases hs : mg w (k, a) (k', b) ∈ trs D
    · simp only [hs, or_true, if_true]
      omega
    · have h1 : ¬ ((k, a), (k', b)) ∈ PD := fun h => hs (key (.inl h))
      have h2 : ¬ ((k', b), (k, a)) ∈ PD := fun h => hs (key (.inr h))
      simp [hs, h1, h2]
      omega
theorem ZI.stop (h : ZI w f g f.len g.len D PD) : appT D .nil = zipT (mg w) f g ∧ fsA [] D + 1 ≤ cnA w f g := by
  have h1 := h.zip
  have h2 := h.prs
  have h3 := h.cost
  rw [Tops.drop_end f _ (Nat.le_refl _), Tops.drop_end g _ (Nat.le_refl _)] at h1 h2
  rw [zipT] at h1
  rw [pairsT, List.append_nil] at h2
  refine ⟨h1, ?_⟩
  unfold cnA
  rw [← h2]
  omega
end

/-! ### what is done lies in memory -/
def DOk (w : World) (Z : Nat → Prop) (S : List Addr) (D : List En) : Prop := ∀ x ∈ D, Rep w Z x.2.1.1 x.2.1.2.1 x.2.1.2.2 ∧ Wf x.2.1.2.1 x.2.1.2.2 ∧ ∃ E : List Addr, E.length ≤ x.2.2 ∧ x.2.1.1 ∈ S ++ E ∧ ClX w Z (S ++ E)
theorem DOk.move {w w' : World} {Z Z' : Nat → Prop} {S : List Addr} {D : List En} (h : DOk w Z S D) (hm : Move Z Z' w w') : DOk w' Z' S D := fun x hx => by
  obtain ⟨h1, h2, E, h3, h4, h5⟩ := h x hx
  exact ⟨h1.move hm, h2, E, h3, h4, h5.move hm⟩
theorem DOk.snoc {w : World} {Z : Nat → Prop} {S : List Addr} {D : List En} {x : En} (h : DOk w Z S D) (h1 : Rep w Z x.2.1.1 x.2.1.2.1 x.2.1.2.2) (h2 : Wf x.2.1.2.1 x.2.1.2.2) {E : List Addr} (h3 : E.length ≤ x.2.2) (h4 : x.2.1.1 ∈ S ++ E) (h5 : ClX w Z (S ++ E)) : DOk w Z S (D ++ [x]) := fun y hy => by
  rcases List.mem_append.1 hy with hy | hy
  · exact h y hy
  · simp at hy; subst hy
    exact ⟨h1, h2, E, h3, h4, h5⟩
theorem ClX.union {w : World} {Z : Nat → Prop} {S E F : List Addr} (h : ClX w Z (S ++ E)) (k : ClX w Z (S ++ F)) : ClX w Z (S ++ (E ++ F)) := fun q hq => by
  rw [← List.append_assoc] at hq
  rcases List.mem_append.1 hq with hq | hq
  · obtain ⟨g, k', h', ss, qs, h1, h2, h3⟩ := h q hq
    exact ⟨g, k', h', ss, qs, h1, h2, fun x hx => by rw [← List.append_assoc]; exact List.mem_append_left _ (h3 x hx)⟩
  · obtain ⟨g, k', h', ss, qs, h1, h2, h3⟩ := k q (List.mem_append_right _ hq)
    exact ⟨g, k', h', ss, qs, h1, h2, fun x hx => by
      rcases List.mem_append.1 (h3 x hx) with h | h
      · exact List.mem_append_left _ h
      · exact List.mem_append_right _ (List.mem_append_right _ h)⟩
theorem fstK_mem {l : List Kn} {x : Kn} (h : ∃ y ∈ l, y.2 = x.2) : ∃ y ∈ l, y.2 = x.2 ∧ fstK l x.2.1 x.2.2 = some y.1 := by
  obtain ⟨y, hy, e⟩ := h
  unfold fstK
  cases hf : l.find? (treeIs x.2.1 x.2.2) with
  | none =>
    have := List.find?_eq_none.1 hf y hy
    exact absurd (decide_eq_true e) this
  | some z =>
    exact ⟨z, List.mem_of_find?_eq_some hf, of_decide_eq_true (p := z.2 = (x.2.1, x.2.2)) (List.find?_some (p := treeIs x.2.1 x.2.2) hf), rfl⟩
theorem fstK_none {l : List Kn} {x : Kn} (h : ¬ ∃ y ∈ l, y.2 = x.2) : fstK l x.2.1 x.2.2 = none := by
  unfold fstK
  have : l.find? (treeIs x.2.1 x.2.2) = none := List.find?_eq_none.2 (fun y hy ht => h ⟨y, hy, of_decide_eq_true (p := y.2 = (x.2.1, x.2.2)) ht⟩)
  rw [this]
  rfl
/-- For each the first that is equal: all of these and what is below them. -/
theorem DOk.close {w : World} {Z : Nat → Prop} {S : List Addr} (hcl : ClX w Z S) : ∀ (n : Nat) (D : List En), D.length = n → DOk w Z S D → ∃ E : List Addr, E.length ≤ fsA [] D ∧ ClX w Z (S ++ E) ∧ ∀ x ∈ D, fstOf (kns D) x.2.1 ∈ S ++ E
  | 0, D, hn, _ => by
    rw [List.eq_nil_of_length_eq_zero hn]
    exact ⟨[], Nat.zero_le _, by simpa using hcl, fun x hx => by cases hx⟩
  | n + 1, D, hn, h => by
    rcases List.eq_nil_or_concat D with e | ⟨D0, x, e⟩
    · rw [e] at hn; cases hn
    · rw [List.concat_eq_append] at e
      subst e
      obtain ⟨E, h1, h2, h3⟩ := DOk.close hcl n D0 (by simpa using hn) (fun y hy => h y (List.mem_append_left _ hy))
      have hk : kns (D0 ++ [x]) = kns D0 ++ [x.2.1] := by simp [kns]
      have old : ∀ y : En, (∃ z ∈ kns D0, z.2 = y.2.1.2) → fstOf (kns D0 ++ [x.2.1]) y.2.1 ∈ S ++ E := by
        intro y hy
        obtain ⟨z, hz, he, hf⟩ := fstK_mem (x := y.2.1) hy
        obtain ⟨u, hu, rfl⟩ := List.mem_map.1 hz
        have h4 := h3 u hu
        unfold fstOf at h4 ⊢
        rw [fstK_append, hf]
        have : fstK (kns D0) u.2.1.2.1 u.2.1.2.2 = some u.2.1.1 := by rw [he]; exact hf
        rw [this] at h4
        exact h4
      rw [hk, fsA_snoc]
      by_cases hx : x.2.1.2 ∈ trs D0
      · obtain ⟨u, hu, he⟩ := List.mem_map.1 hx
        refine ⟨E, by simp [hx]; exact h1, h2, fun y hy => ?_⟩
        rcases List.mem_append.1 hy with hy | hy
        · exact old y ⟨y.2.1, List.mem_map_of_mem hy, rfl⟩
        · simp at hy; subst hy
          exact old y ⟨u.2.1, List.mem_map_of_mem hu, he⟩
      · obtain ⟨_, _, F, g1, g2, g3⟩ := h x (List.mem_append_right _ (by simp))
        refine ⟨E ++ F, by simp [hx]; omega, h2.union g3, fun y hy => ?_⟩
        rcases List.mem_append.1 hy with hy | hy
        · have := old y ⟨y.2.1, List.mem_map_of_mem hy, rfl⟩
          rw [← List.append_assoc]; exact List.mem_append_left _ this
        · simp at hy; subst hy
          have hn0 : fstK (kns D0) y.2.1.2.1 y.2.1.2.2 = none := fstK_none (fun ⟨z, hz, he⟩ => by
            obtain ⟨u, hu, rfl⟩ := List.mem_map.1 hz
            exact hx (he ▸ List.mem_map_of_mem hu))
          unfold fstOf
          rw [fstK_append, hn0, fstK_one, if_pos rfl]
          show y.2.1.1 ∈ _
          rcases List.mem_append.1 g2 with h | h
          · exact List.mem_append_left _ h
          · exact List.mem_append_right _ (List.mem_append_right _ h)
/-- What is done lies below the tops of the whole. -/
theorem DOk.subs {w : World} {Z : Nat → Prop} {S : List Addr} : ∀ (D : List En), DOk w Z S D → Subs w Z (appT D .nil) (adr (kns D))
  | [], _ => rfl
  | (s, (q, k, a), c) :: l, h => by
    obtain ⟨⟨g, e, qs, h1, h2⟩, _⟩ := h _ (List.mem_cons_self ..)
    exact ⟨g, adr (kns l), by simp only at e; subst e; rfl, ⟨qs, h1, h2⟩, DOk.subs l (fun x hx => h x (List.mem_cons_of_mem _ hx))⟩
/-- .. also where each gives way to the first that is equal. -/
theorem DOk.subs_fst {w : World} {Z : Nat → Prop} {S : List Addr} {T : List En} (hT : DOk w Z S T) : ∀ (D : List En), (∀ x ∈ D, x ∈ T) → Subs w Z (appT D .nil) ((kns D).map (fstOf (kns T)))
  | [], _ => rfl
  | x :: l, h => by
    have hx := h x (List.mem_cons_self ..)
    obtain ⟨z, hz, he, hf⟩ := fstK_mem (l := kns T) (x := x.2.1) ⟨x.2.1, List.mem_map_of_mem hx, rfl⟩
    obtain ⟨u, hu, rfl⟩ := List.mem_map.1 hz
    obtain ⟨⟨g, e, qs, h1, h2⟩, _⟩ := hT u hu
    obtain ⟨s, ⟨q, k, a⟩, c⟩ := x
    simp only at he
    rw [he] at h1 h2
    have e2 : fstOf (kns T) (q, k, a) = ⟨g, 0, none⟩ := by unfold fstOf; rw [hf]; exact e
    exact ⟨g, (kns l).map (fstOf (kns T)), by rw [← e2]; rfl, ⟨qs, h1, h2⟩, DOk.subs_fst hT l (fun x hx => h x (List.mem_cons_of_mem _ hx))⟩
end Go.Proofs.Ytcbabfndfikejaa
