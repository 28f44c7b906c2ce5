/- The merge of two choices without fuel, and how many new choices it needs. No program in sight. -/
import Derived.Test.YtcbabfndfikejaaQ2
namespace Go.Proofs.Ytcbabfndfikejaa

/-- THE MERGE -/
def mg (w : Bool) (x y : Tr) : Tr := mrg w (x.2.size + 1) x y
/-- the merge of two, if it is made -/
def mgA (w : Bool) (f g : Tops) : Tr := mkM (f.len + g.len) (zipT (mg w) f g)
theorem zip_congr {m m' : Tr → Tr → Tr} : ∀ (f g : Tops), (∀ s k a k' b, (s, k, a) ∈ f.list → (s, k', b) ∈ g.list → m (k, a) (k', b) = m' (k, a) (k', b)) → zipT m f g = zipT m' f g
  | .nil, g, _ => by rw [zipT, zipT]
  | .cons s k a r, .nil, _ => by rw [zipT, zipT]
  | .cons s k a r, .cons t k' b r', h => by
    rw [zipT, zipT]
    by_cases e : s = t
    · subst e
      rw [if_pos rfl, if_pos rfl, h s k a k' b (List.mem_cons_self ..) (List.mem_cons_self ..),
        zip_congr (m := m) (m' := m') r r' (fun s k a k' b h1 h2 => h s k a k' b (List.mem_cons_of_mem _ h1) (List.mem_cons_of_mem _ h2))]
    · rw [if_neg e, if_neg e]
      by_cases hlt : s < t
      · rw [if_pos hlt, if_pos hlt, zip_congr (m := m) (m' := m') r (.cons t k' b r') (fun s k a k' b h1 h2 => h s k a k' b (List.mem_cons_of_mem _ h1) h2)]
      · rw [if_neg hlt, if_neg hlt, zip_congr (m := m) (m' := m') (.cons s k a r) r' (fun s k a k' b h1 h2 => h s k a k' b h1 (List.mem_cons_of_mem _ h2))]
termination_by f g => f.len + g.len
decreasing_by all_goals (simp only [Tops.len]; omega)
theorem mrg_mg {w : Bool} {n : Nat} {x y : Tr} (h : x.2.size < n) (hx : Wf x.1 x.2) (hy : Wf y.1 y.2) : mrg w n x y = mg w x y :=
  (mrg_comm w n (y.2.size + 1) x y h (Nat.lt_succ_self _) hx hy).trans (mrg_comm w (x.2.size + 1) (y.2.size + 1) x y (Nat.lt_succ_self _) (Nat.lt_succ_self _) hx hy).symm
theorem mg_comm {w : Bool} {x y : Tr} (hx : Wf x.1 x.2) (hy : Wf y.1 y.2) : mg w x y = mg w y x := mrg_comm w _ _ x y (Nat.lt_succ_self _) (Nat.lt_succ_self _) hx hy
theorem mg_eq (w : Bool) {x y : Tr} (hx : Wf x.1 x.2) (hy : Wf y.1 y.2) : mg w x y = if x = y then x else if w = true ∧ x.1 = 0 then x else if w = true ∧ y.1 = 0 then y else mgA w x.2 y.2 := by
  unfold mg
  rw [mrg]
  unfold mgA
  rw [zip_congr (m := mrg w x.2.size) (m' := mg w) x.2 y.2 (fun s k a k' b h1 h2 => mrg_mg (Tops.list_size h1) (Tops.list_wf hx.2 h1).2 (Tops.list_wf hy.2 h2).2)]
theorem mgA_comm {w : Bool} {f g : Tops} (hf : f.wf) (hg : g.wf) : mgA w f g = mgA w g f := by
  unfold mgA
  rw [Nat.add_comm f.len g.len, zip_comm (m := mg w) (m' := mg w) f g (fun s k a k' b h1 h2 => mg_comm (Tops.list_wf hf h1).2 (Tops.list_wf hg h2).2)]

/-! ### how many new ones -/
/-- what is merged below -/
def pairsT : Tops → Tops → List (Tr × Tr)
  | .nil, _ => []
  | .cons .., .nil => []
  | .cons s k a r, .cons t k' b r' =>
    if s = t then ((k, a), (k', b)) :: pairsT r r'
    else if s < t then pairsT r (.cons t k' b r')
    else pairsT (.cons s k a r) r'
termination_by f g => f.len + g.len
decreasing_by all_goals (simp only [Tops.len]; omega)
/-- the sum over pairs, each one once, whichever comes first -/
def psum (c : Tr → Tr → Nat) (seen : List (Tr × Tr)) : List (Tr × Tr) → Nat
  | [] => 0
  | p :: l => (if p ∈ seen ∨ (p.2, p.1) ∈ seen then 0 else c p.1 p.2) + psum c (p :: seen) l
def cntF (w : Bool) : Nat → Tr → Tr → Nat
  | 0, _, _ => 0
  | n + 1, x, y => if x = y then 0 else if w = true ∧ (x.1 = 0 ∨ y.1 = 0) then 0 else 1 + psum (cntF w n) [] (pairsT x.2 y.2)
/-- how many new choices a merge needs -/
def cn (w : Bool) (x y : Tr) : Nat := cntF w (x.2.size + 1) x y
def cnA (w : Bool) (f g : Tops) : Nat := 1 + psum (cn w) [] (pairsT f g)
theorem pairs_mem : ∀ {f g : Tops} {p : Tr × Tr}, p ∈ pairsT f g → ∃ s, (s, p.1.1, p.1.2) ∈ f.list ∧ (s, p.2.1, p.2.2) ∈ g.list
  | .nil, _, _, h => by rw [pairsT] at h; cases h
  | .cons .., .nil, _, h => by rw [pairsT] at h; cases h
  | .cons s k a r, .cons t k' b r', p, h => by
    rw [pairsT] at h
    split at h
    · rename_i e
      subst e
      rcases List.mem_cons.1 h with rfl | h
      · exact ⟨s, List.mem_cons_self .., List.mem_cons_self ..⟩
      · obtain ⟨u, h1, h2⟩ := pairs_mem h
        exact ⟨u, List.mem_cons_of_mem _ h1, List.mem_cons_of_mem _ h2⟩
    · split at h
      · obtain ⟨u, h1, h2⟩ := pairs_mem h
        exact ⟨u, List.mem_cons_of_mem _ h1, h2⟩
      · obtain ⟨u, h1, h2⟩ := pairs_mem h
        exact ⟨u, h1, List.mem_cons_of_mem _ h2⟩
termination_by f g => f.len + g.len
decreasing_by all_goals (simp only [Tops.len]; omega)
theorem psum_congr {c c' : Tr → Tr → Nat} : ∀ (l seen : List (Tr × Tr)), (∀ p ∈ l, c p.1 p.2 = c' p.1 p.2) → psum c seen l = psum c' seen l
  | [], _, _ => rfl
  | p :: l, seen, h => by
    unfold psum
    rw [h p (List.mem_cons_self ..), psum_congr l (p :: seen) (fun q hq => h q (List.mem_cons_of_mem _ hq))]
theorem cntF_fuel (w : Bool) : ∀ (n n' : Nat) (x y : Tr), x.2.size < n → x.2.size < n' → cntF w n x y = cntF w n' x y
  | 0, _, _, _, h, _ => absurd h (by omega)
  | _ + 1, 0, _, _, _, h => absurd h (by omega)
  | n + 1, n' + 1, x, y, h, h' => by
    unfold cntF
    rw [psum_congr (c := cntF w n) (c' := cntF w n') _ _ (fun p hp => by
      obtain ⟨s, h1, _⟩ := pairs_mem hp
      have := Tops.list_size h1
      exact cntF_fuel w n n' p.1 p.2 (by omega) (by omega))]
theorem cn_eq (w : Bool) (x y : Tr) : cn w x y = if x = y then 0 else if w = true ∧ (x.1 = 0 ∨ y.1 = 0) then 0 else cnA w x.2 y.2 := by
  unfold cn cnA
  rw [cntF, psum_congr (c := cntF w x.2.size) (c' := cn w) _ _ (fun p hp => by
      obtain ⟨s, h1, _⟩ := pairs_mem hp
      have := Tops.list_size h1
      exact cntF_fuel w x.2.size (p.1.2.size + 1) p.1 p.2 (by omega) (by omega))]
def swp (p : Tr × Tr) : Tr × Tr := (p.2, p.1)
theorem pairs_swp : ∀ (f g : Tops), pairsT g f = (pairsT f g).map swp
  | .nil, .nil => by rw [pairsT]; rfl
  | .nil, .cons .. => by rw [pairsT, pairsT]; rfl
  | .cons .., .nil => by rw [pairsT, pairsT]; rfl
  | .cons s k a r, .cons t k' b r' => by
    rw [pairsT, pairsT]
    by_cases e : s = t
    · subst e
      rw [if_pos rfl, if_pos rfl, pairs_swp r r']; rfl
    · have e' : ¬ t = s := fun h => e h.symm
      rw [if_neg e, if_neg e']
      by_cases hlt : s < t
      · rw [if_pos hlt, if_neg (by omega), pairs_swp r (.cons t k' b r')]
      · rw [if_neg hlt, if_pos (by omega), pairs_swp (.cons s k a r) r']
termination_by f g => f.len + g.len
decreasing_by all_goals (simp only [Tops.len]; omega)
theorem swp_mem {p : Tr × Tr} {l : List (Tr × Tr)} : swp p ∈ l.map swp ↔ p ∈ l := by
  constructor
  · intro h
    obtain ⟨q, hq, e⟩ := List.mem_map.1 h
    unfold swp at e
    obtain ⟨q1, q2⟩ := q
    obtain ⟨p1, p2⟩ := p
    simp only [Prod.mk.injEq] at e
    obtain ⟨e1, e2⟩ := e
    subst e1; subst e2
    exact hq
  · exact fun h => List.mem_map_of_mem h
theorem psum_swp {c c' : Tr → Tr → Nat} : ∀ (l seen : List (Tr × Tr)), (∀ p ∈ l, c p.1 p.2 = c' p.2 p.1) → psum c' (seen.map swp) (l.map swp) = psum c seen l
  | [], _, _ => rfl
  | p :: l, seen, h => by
    rw [List.map_cons]
    unfold psum
    have ih := psum_swp (c := c) (c' := c') l (p :: seen) (fun q hq => h q (List.mem_cons_of_mem _ hq))
    rw [List.map_cons] at ih
    rw [ih]
    congr 1
    have e1 : (swp p ∈ seen.map swp) ↔ p ∈ seen := swp_mem
    have e2 : (((swp p).2, (swp p).1) ∈ seen.map swp) ↔ (p.2, p.1) ∈ seen := by
      have := swp_mem (p := (p.2, p.1)) (l := seen)
      exact this
    have hc : c' (swp p).1 (swp p).2 = c p.1 p.2 := (h p (List.mem_cons_self ..)).symm
    by_cases hs : p ∈ seen ∨ (p.2, p.1) ∈ seen
    · rw [if_pos hs, if_pos (hs.imp e1.2 e2.2)]
    · rw [if_neg hs, if_neg (fun h => hs (h.imp e1.1 e2.1)), hc]
theorem cntF_comm (w : Bool) : ∀ (n n' : Nat) (x y : Tr), x.2.size < n → y.2.size < n' → cntF w n x y = cntF w n' y x
  | 0, _, _, _, h, _ => absurd h (by omega)
  | _ + 1, 0, _, _, _, h => absurd h (by omega)
  | n + 1, n' + 1, x, y, h, h' => by
    unfold cntF
    have e1 : (x = y) ↔ (y = x) := ⟨Eq.symm, Eq.symm⟩
    have e2 : (w = true ∧ (x.1 = 0 ∨ y.1 = 0)) ↔ (w = true ∧ (y.1 = 0 ∨ x.1 = 0)) := by rw [or_comm]
    rw [pairs_swp x.2 y.2]
    have := psum_swp (c := cntF w n) (c' := cntF w n') (pairsT x.2 y.2) [] (fun p hp => by
      obtain ⟨s, h1, h2⟩ := pairs_mem hp
      have := Tops.list_size h1
      have := Tops.list_size h2
      exact cntF_comm w n n' p.1 p.2 (by omega) (by omega))
    simp only [List.map_nil] at this
    rw [this]
    simp only [e1, e2]
theorem cn_comm (w : Bool) (x y : Tr) : cn w x y = cn w y x := cntF_comm w _ _ x y (Nat.lt_succ_self _) (Nat.lt_succ_self _)
theorem cnA_comm (w : Bool) (f g : Tops) : cnA w f g = cnA w g f := by
  unfold cnA
  rw [pairs_swp f g]
  have := psum_swp (c := cn w) (c' := cn w) (pairsT f g) [] (fun p _ => cn_comm w p.1 p.2)
  simp only [List.map_nil] at this
  rw [this]
end Go.Proofs.Ytcbabfndfikejaa
