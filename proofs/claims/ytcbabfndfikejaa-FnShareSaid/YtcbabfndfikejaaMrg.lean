/- The merge of two choices as a function on trees, and the stacks of its outcome. No program in sight. -/
import Derived.Test.YtcbabfndfikejaaEq
namespace Go.Proofs.Ytcbabfndfikejaa

abbrev Tr := Nat × Tops
/-- the tops of two, merged by their states -/
def zipT (m : Tr → Tr → Tr) : Tops → Tops → Tops
  | .nil, g => g
  | .cons s k a r, .nil => .cons s k a r
  | .cons s k a r, .cons t k' b r' =>
    if s = t then .cons s (m (k, a) (k', b)).1 (m (k, a) (k', b)).2 (zipT m r r')
    else if s < t then .cons s k a (zipT m r (.cons t k' b r'))
    else .cons t k' b (zipT m (.cons s k a r) r')
termination_by f g => f.len + g.len
decreasing_by all_goals (simp only [Tops.len]; omega)
/-- what the merged tops become: L is how many there were in both -/
def mkM (L : Nat) (z : Tops) : Tr := if z.len = 1 ∧ 1 < L then (1, z) else (2, z)
/-- THE MERGE, with fuel -/
def mrg (w : Bool) : Nat → Tr → Tr → Tr
  | 0, x, _ => x
  | n + 1, x, y => if x = y then x else if w = true ∧ x.1 = 0 then x else if w = true ∧ y.1 = 0 then y else mkM (x.2.len + y.2.len) (zipT (mrg w n) x.2 y.2)

def Tops.list : Tops → List (Int × Nat × Tops)
  | .nil => []
  | .cons s k a r => (s, k, a) :: r.list
def Tops.isNil : Tops → Bool
  | .nil => true
  | .cons .. => false
theorem Tops.isNil_eq : ∀ {f : Tops}, f.isNil = true → f = .nil
  | .nil, _ => rfl
theorem Tops.list_length : ∀ f : Tops, f.list.length = f.len
  | .nil => rfl
  | .cons _ _ _ r => by simp [Tops.list, Tops.len, Tops.list_length r]
/-- the stacks of a choice that has tops -/
def Tops.stk : Tops → List (List Int)
  | .nil => []
  | .cons s _ a r => (if a.isNil then [[]] else a.stk).map (s :: ·) ++ r.stk
/-- the stacks of a choice -/
def stkOf (f : Tops) : List (List Int) := if f.isNil then [[]] else f.stk
theorem stk_cons (s : Int) (k : Nat) (a r : Tops) : (Tops.cons s k a r).stk = (stkOf a).map (s :: ·) ++ r.stk := rfl
theorem stkOf_nil : stkOf .nil = [[]] := rfl
theorem stkOf_cons (s : Int) (k : Nat) (a r : Tops) : stkOf (.cons s k a r) = (Tops.cons s k a r).stk := rfl
theorem stkOf_len : ∀ f : Tops, f.isNil = false → stkOf f = f.stk
  | .cons .., _ => rfl

/-- a stack is in a list, or, with a wildcard below each, begins with one of it -/
def hasW (w : Bool) (L : List (List Int)) (st : List Int) : Prop := ∃ p ∈ L, p = st ∨ (w = true ∧ p <+: st)
theorem hasW_self {w : Bool} {L : List (List Int)} {st : List Int} (h : st ∈ L) : hasW w L st := ⟨st, h, .inl rfl⟩
theorem hasW_append {w : Bool} {L M : List (List Int)} {st : List Int} : hasW w (L ++ M) st ↔ hasW w L st ∨ hasW w M st := by
  unfold hasW
  constructor
  · rintro ⟨p, hp, h⟩
    rcases List.mem_append.1 hp with h1 | h1
    · exact .inl ⟨p, h1, h⟩
    · exact .inr ⟨p, h1, h⟩
  · rintro (⟨p, hp, h⟩ | ⟨p, hp, h⟩)
    · exact ⟨p, List.mem_append_left _ hp, h⟩
    · exact ⟨p, List.mem_append_right _ hp, h⟩
theorem hasW_map {w : Bool} {L : List (List Int)} {s : Int} {st : List Int} : hasW w (L.map (s :: ·)) st ↔ ∃ t, st = s :: t ∧ hasW w L t := by
  unfold hasW
  constructor
  · rintro ⟨p, hp, h⟩
    obtain ⟨q, hq, rfl⟩ := List.mem_map.1 hp
    rcases h with rfl | ⟨hw, h⟩
    · exact ⟨q, rfl, q, hq, .inl rfl⟩
    · obtain ⟨u, rfl⟩ := h
      exact ⟨q ++ u, rfl, q, hq, .inr ⟨hw, u, rfl⟩⟩
  · rintro ⟨t, rfl, q, hq, h⟩
    refine ⟨s :: q, List.mem_map.2 ⟨q, hq, rfl⟩, ?_⟩
    rcases h with rfl | ⟨hw, u, rfl⟩
    · exact .inl rfl
    · exact .inr ⟨hw, u, rfl⟩
theorem hasW_cons {w : Bool} {s : Int} {k : Nat} {a r : Tops} {st : List Int} : hasW w (Tops.cons s k a r).stk st ↔ (∃ t, st = s :: t ∧ hasW w (stkOf a) t) ∨ hasW w r.stk st := by
  rw [stk_cons, hasW_append, hasW_map]
theorem hasW_none {w : Bool} {st : List Int} : ¬ hasW w [] st := by rintro ⟨p, hp, _⟩; cases hp

/-- merged tops have the stacks of both, if what is merged below has -/
theorem zip_has {w : Bool} {m : Tr → Tr → Tr} : ∀ (f g : Tops), (∀ s k a k' b, (s, k, a) ∈ f.list → (s, k', b) ∈ g.list → ∀ t, hasW w (stkOf (m (k, a) (k', b)).2) t ↔ hasW w (stkOf a) t ∨ hasW w (stkOf b) t) →
    ∀ st, hasW w (zipT m f g).stk st ↔ hasW w f.stk st ∨ hasW w g.stk st
  | .nil, g, _, st => by rw [zipT]; simp [Tops.stk, hasW_none]
  | .cons s k a r, .nil, _, st => by rw [zipT]; simp [Tops.stk, hasW_none]
  | .cons s k a r, .cons t k' b r', h, st => by
    rw [zipT]
    split
    · rename_i e
      subst e
      have ih := zip_has (m := m) (w := w) r r' (fun s k a k' b h1 h2 => h s k a k' b (List.mem_cons_of_mem _ h1) (List.mem_cons_of_mem _ h2)) st
      have hm := h s k a k' b (List.mem_cons_self ..) (List.mem_cons_self ..)
      rw [hasW_cons, hasW_cons, hasW_cons, ih]
      constructor
      · rintro (⟨u, rfl, hu⟩ | h1 | h1)
        · rcases (hm u).1 hu with h2 | h2
          · exact .inl (.inl ⟨u, rfl, h2⟩)
          · exact .inr (.inl ⟨u, rfl, h2⟩)
        · exact .inl (.inr h1)
        · exact .inr (.inr h1)
      · rintro ((⟨u, rfl, hu⟩ | h1) | ⟨u, rfl, hu⟩ | h1)
        · exact .inl ⟨u, rfl, (hm u).2 (.inl hu)⟩
        · exact .inr (.inl h1)
        · exact .inl ⟨u, rfl, (hm u).2 (.inr hu)⟩
        · exact .inr (.inr h1)
    · split
      · have ih := zip_has (m := m) (w := w) r (.cons t k' b r') (fun s k a k' b h1 h2 => h s k a k' b (List.mem_cons_of_mem _ h1) h2) st
        rw [hasW_cons, hasW_cons (a := a), ih]
        constructor
        · rintro (h1 | h1 | h1)
          · exact .inl (.inl h1)
          · exact .inl (.inr h1)
          · exact .inr h1
        · rintro ((h1 | h1) | h1)
          · exact .inl h1
          · exact .inr (.inl h1)
          · exact .inr (.inr h1)
      · have ih := zip_has (m := m) (w := w) (.cons s k a r) r' (fun s k a k' b h1 h2 => h s k a k' b h1 (List.mem_cons_of_mem _ h2)) st
        rw [hasW_cons, hasW_cons (a := b), ih]
        constructor
        · rintro (h1 | h1 | h1)
          · exact .inr (.inl h1)
          · exact .inl h1
          · exact .inr (.inr h1)
        · rintro (h1 | h1 | h1)
          · exact .inr (.inl h1)
          · exact .inl h1
          · exact .inr (.inr h1)
termination_by f g => f.len + g.len
decreasing_by all_goals (simp only [Tops.len]; omega)

theorem zip_len {m : Tr → Tr → Tr} : ∀ (f g : Tops), f.len ≤ (zipT m f g).len ∧ g.len ≤ (zipT m f g).len ∧ (zipT m f g).len ≤ f.len + g.len
  | .nil, g => by rw [zipT]; simp [Tops.len]
  | .cons s k a r, .nil => by rw [zipT]; simp [Tops.len]
  | .cons s k a r, .cons t k' b r' => by
    rw [zipT]
    split
    · have ih := zip_len (m := m) r r'; simp only [Tops.len]; omega
    · split
      · have ih := zip_len (m := m) r (.cons t k' b r'); simp only [Tops.len] at ih ⊢; omega
      · have ih := zip_len (m := m) (.cons s k a r) r'; simp only [Tops.len] at ih ⊢; omega
termination_by f g => f.len + g.len
decreasing_by all_goals (simp only [Tops.len]; omega)
theorem Tops.isNil_len : ∀ f : Tops, f.isNil = true ↔ f.len = 0
  | .nil => by simp [Tops.isNil, Tops.len]
  | .cons .. => by simp [Tops.isNil, Tops.len]
theorem Tops.notNil {f : Tops} (h : 0 < f.len) : f.isNil = false := by
  cases f
  · simp [Tops.len] at h
  · rfl
/-- no stack is the beginning of a longer one -/
def ApartL (L : List (List Int)) : Prop := ∀ a ∈ L, ∀ b ∈ L, a.length < b.length → ¬ a <+: b
theorem stk_ne : ∀ f : Tops, f.isNil = false → ∃ s t, (s :: t) ∈ f.stk
  | .cons s k a r, _ => by
    cases ha : a.isNil
    · obtain ⟨s', t', h⟩ := stk_ne a ha
      exact ⟨s, s' :: t', by rw [stk_cons, stkOf_len a ha]; exact List.mem_append_left _ (List.mem_map.2 ⟨_, h, rfl⟩)⟩
    · exact ⟨s, [], by rw [stk_cons, Tops.isNil_eq ha, stkOf_nil]; simp⟩
theorem mem_stk {f : Tops} {s : Int} {k : Nat} {a : Tops} {t : List Int} (h : (s, k, a) ∈ f.list) (ht : t ∈ stkOf a) : s :: t ∈ f.stk := by
  induction f with
  | nil => cases h
  | cons s' k' a' r _ ih =>
    rw [stk_cons]
    rcases List.mem_cons.1 h with h | h
    · cases h
      exact List.mem_append_left _ (List.mem_map.2 ⟨_, ht, rfl⟩)
    · exact List.mem_append_right _ (ih h)
theorem Tops.list_size {f : Tops} {s : Int} {k : Nat} {a : Tops} (h : (s, k, a) ∈ f.list) : a.size < f.size := by
  induction f with
  | nil => cases h
  | cons s' k' a' r _ ih =>
    simp only [Tops.size]
    rcases List.mem_cons.1 h with h | h
    · cases h; omega
    · have := ih h; omega
theorem Tops.list_wf {f : Tops} (hw : f.wf) {s : Int} {k : Nat} {a : Tops} (h : (s, k, a) ∈ f.list) : (0 ≤ s ∧ s ≤ 1000) ∧ Wf k a := by
  induction f with
  | nil => cases h
  | cons s' k' a' r _ ih =>
    rcases List.mem_cons.1 h with h | h
    · cases h; exact ⟨hw.1, hw.2.1, hw.2.2.1⟩
    · exact ih hw.2.2.2 h
theorem Wf.nil_zero {k : Nat} {f : Tops} (h : Wf k f) : f.isNil = true ↔ k = 0 := by
  rw [Tops.isNil_len]
  rcases h.1 with ⟨h1, h2⟩ | ⟨h1, h2⟩ | ⟨h1, h2, _⟩
  · subst h1; subst h2; simp [Tops.len]
  · omega
  · omega
theorem Wf.nil_eq {k k' : Nat} {f f' : Tops} (h : Wf k f) (h' : Wf k' f') (hn : f.isNil = true) (hn' : f'.isNil = true) : (k, f) = (k', f') := by
  rw [h.nil_zero.1 hn, h'.nil_zero.1 hn', Tops.isNil_eq hn, Tops.isNil_eq hn']
theorem hasW_top {st : List Int} : hasW true [[]] st := ⟨[], by simp, .inr ⟨rfl, List.nil_prefix⟩⟩

/-- THE STACKS OF A MERGE -/
theorem mrg_has (w : Bool) : ∀ (n : Nat) (x y : Tr), x.2.size < n → Wf x.1 x.2 → Wf y.1 y.2 → (w = true ∨ ApartL (stkOf x.2 ++ stkOf y.2)) →
    ∀ st, hasW w (stkOf (mrg w n x y).2) st ↔ hasW w (stkOf x.2) st ∨ hasW w (stkOf y.2) st
  | 0, _, _, h, _, _, _, _ => absurd h (by omega)
  | n + 1, (k, f), (k', g), hsz, hx, hy, hap, st => by
    rw [mrg]
    split
    · rename_i e; rw [e]; simp
    rename_i hne
    split
    · rename_i e
      obtain ⟨rfl, e0⟩ := e
      have : f = .nil := Tops.isNil_eq (hx.nil_zero.2 e0)
      subst this
      simp [stkOf_nil, hasW_top]
    rename_i hw1
    split
    · rename_i e
      obtain ⟨rfl, e0⟩ := e
      have : g = .nil := Tops.isNil_eq (hy.nil_zero.2 e0)
      subst this
      simp [stkOf_nil, hasW_top]
    rename_i hw2
    have hz : ∀ L z, (mkM L z).2 = z := fun L z => by unfold mkM; split <;> rfl
    simp only at hw1 hw2 hsz hx hy hap
    rw [hz]
    show hasW w (stkOf (zipT (mrg w n) f g)) st ↔ hasW w (stkOf f) st ∨ hasW w (stkOf g) st
    have bad : ∀ (u v : Tops), ApartL (stkOf u ++ stkOf v) → u.isNil = true → v.isNil = false → False := fun u v ha hu hv => by
      obtain ⟨s, t, h⟩ := stk_ne v hv
      rw [Tops.isNil_eq hu, stkOf_nil, stkOf_len v hv] at ha
      exact ha [] (by simp) (s :: t) (List.mem_append_right _ h) (by simp) List.nil_prefix
    have hf : f.isNil = false := by
      cases hf : f.isNil
      · rfl
      · exfalso
        rcases hap with rfl | hap
        · exact hw1 ⟨rfl, hx.nil_zero.1 hf⟩
        · cases hg : g.isNil
          · exact bad f g hap hf hg
          · exact hne (hx.nil_eq hy hf hg)
    have hg : g.isNil = false := by
      cases hg : g.isNil
      · rfl
      · exfalso
        rcases hap with rfl | hap
        · exact hw2 ⟨rfl, hy.nil_zero.1 hg⟩
        · refine bad g f (fun a ha b hb => ?_) hg hf
          exact hap a (by simp only [List.mem_append] at ha ⊢; exact ha.symm) b (by simp only [List.mem_append] at hb ⊢; exact hb.symm)
    have hl : 0 < f.len := by
      rcases Nat.eq_zero_or_pos f.len with h | h
      · rw [(Tops.isNil_len f).2 h] at hf; cases hf
      · exact h
    rw [stkOf_len _ (Tops.notNil (Nat.lt_of_lt_of_le hl (zip_len (m := mrg w n) f g).1)), stkOf_len f hf, stkOf_len g hg]
    refine zip_has f g (fun s k a k' b h1 h2 t => ?_) st
    refine mrg_has w n (k, a) (k', b) (by have := Tops.list_size h1; simp only; omega) (Tops.list_wf hx.2 h1).2 (Tops.list_wf hy.2 h2).2 ?_ t
    rcases hap with hap | hap
    · exact .inl hap
    refine .inr fun a1 ha1 b1 hb1 hlt hpre => ?_
    rw [stkOf_len f hf, stkOf_len g hg] at hap
    have lift : ∀ t, t ∈ stkOf a ++ stkOf b → s :: t ∈ f.stk ++ g.stk := fun t ht => by
      rcases List.mem_append.1 ht with h | h
      · exact List.mem_append_left _ (mem_stk h1 h)
      · exact List.mem_append_right _ (mem_stk h2 h)
    exact hap _ (lift a1 ha1) _ (lift b1 hb1) (by simp; omega) (by simpa using hpre)

/-! ### it does not matter which comes first -/
theorem zip_comm {m m' : Tr → Tr → Tr} : ∀ (f g : Tops), (∀ s k a k' b, (s, k, a) ∈ f.list → (s, k', b) ∈ g.list → m (k, a) (k', b) = m' (k', b) (k, a)) → zipT m f g = zipT m' g f
  | .nil, .nil, _ => by rw [zipT, zipT]
  | .nil, .cons .., _ => by rw [zipT, zipT]
  | .cons s k a r, .nil, _ => by rw [zipT, zipT]
  | .cons s k a r, .cons t k' b r', h => by
    rw [zipT, zipT]
    by_cases e : s = t
    · subst e
      rw [if_pos rfl, if_pos rfl, h s k a k' b (List.mem_cons_self ..) (List.mem_cons_self ..),
        zip_comm (m := m) (m' := m') r r' (fun s k a k' b h1 h2 => h s k a k' b (List.mem_cons_of_mem _ h1) (List.mem_cons_of_mem _ h2))]
    · have e' : ¬ t = s := fun h => e h.symm
      rw [if_neg e, if_neg e']
      by_cases hlt : s < t
      · rw [if_pos hlt, if_neg (by omega), zip_comm (m := m) (m' := m') r (.cons t k' b r') (fun s k a k' b h1 h2 => h s k a k' b (List.mem_cons_of_mem _ h1) h2)]
      · rw [if_neg hlt, if_pos (by omega), zip_comm (m := m) (m' := m') (.cons s k a r) r' (fun s k a k' b h1 h2 => h s k a k' b h1 (List.mem_cons_of_mem _ h2))]
termination_by f g => f.len + g.len
decreasing_by all_goals (simp only [Tops.len]; omega)
theorem mrg_comm (w : Bool) : ∀ (n n' : Nat) (x y : Tr), x.2.size < n → y.2.size < n' → Wf x.1 x.2 → Wf y.1 y.2 → mrg w n x y = mrg w n' y x
  | 0, _, _, _, h, _, _, _ => absurd h (by omega)
  | _ + 1, 0, _, _, _, h, _, _ => absurd h (by omega)
  | n + 1, n' + 1, (k, f), (k', g), hsz, hsz', hx, hy => by
    rw [mrg, mrg]
    simp only at hsz hsz' hx hy ⊢
    by_cases e : (k, f) = (k', g)
    · rw [if_pos e, if_pos e.symm]; exact e
    · have e' : ¬ (k', g) = (k, f) := fun h => e h.symm
      rw [if_neg e, if_neg e']
      by_cases h1 : w = true ∧ k = 0
      · have h2 : ¬ (w = true ∧ k' = 0) := fun h2 => e (hx.nil_eq hy (hx.nil_zero.2 h1.2) (hy.nil_zero.2 h2.2))
        rw [if_pos h1, if_neg h2, if_pos h1]
      · rw [if_neg h1]
        by_cases h2 : w = true ∧ k' = 0
        · rw [if_pos h2, if_pos h2]
        · rw [if_neg h2, if_neg h2, if_neg h1, Nat.add_comm g.len f.len]
          rw [zip_comm (m' := mrg w n') f g]
          intro s k a k' b h1 h2
          exact mrg_comm w n n' (k, a) (k', b) (by have := Tops.list_size h1; simp only; omega) (by have := Tops.list_size h2; simp only; omega) (Tops.list_wf hx.2 h1).2 (Tops.list_wf hy.2 h2).2

/-! ### the outcome is well made -/
/-- ascending tops, all the way down -/
def Tops.srt : Tops → Prop
  | .nil => True
  | .cons s _ a r => (∀ t ∈ r.sts, s < t) ∧ a.srt ∧ r.srt
/-- at most c tops, all the way down -/
def Tops.cap (c : Nat) : Tops → Prop
  | .nil => True
  | .cons _ _ a r => a.len ≤ c ∧ a.cap c ∧ r.cap c
theorem Tops.cap_mono {c d : Nat} (hcd : c ≤ d) : ∀ {f : Tops}, f.cap c → f.cap d
  | .nil, _ => trivial
  | .cons _ _ _ _, h => ⟨Nat.le_trans h.1 hcd, Tops.cap_mono hcd h.2.1, Tops.cap_mono hcd h.2.2⟩
/-- a choice that is well made: its kinds fit, its tops ascend, there are at most c of them -/
structure Made (c : Nat) (x : Tr) : Prop where
  wf : Wf x.1 x.2
  srt : x.2.srt
  len : x.2.len ≤ c
  cap : x.2.cap c
theorem Made.mono {c d : Nat} {x : Tr} (h : Made c x) (hcd : c ≤ d) : Made d x := ⟨h.wf, h.srt, Nat.le_trans h.len hcd, Tops.cap_mono hcd h.cap⟩
theorem Made.at_ {c : Nat} {x : Tr} (h : Made c x) {s : Int} {k : Nat} {a : Tops} (hm : (s, k, a) ∈ x.2.list) : Made c (k, a) := by
  obtain ⟨k0, f⟩ := x
  obtain ⟨h1, h2, h3, h4⟩ := h
  refine ⟨(Tops.list_wf h1.2 hm).2, ?_, ?_, ?_⟩
  · clear h1 h3 h4
    simp only at hm h2 ⊢
    induction f with
    | nil => cases hm
    | cons s' k' a' r _ ih =>
      rcases List.mem_cons.1 hm with h | h
      · cases h; exact h2.2.1
      · exact ih h h2.2.2
  · clear h1 h2 h3
    simp only at hm h4 ⊢
    induction f with
    | nil => cases hm
    | cons s' k' a' r _ ih =>
      rcases List.mem_cons.1 hm with h | h
      · cases h; exact h4.1
      · exact ih h h4.2.2
  · clear h1 h2 h3
    simp only at hm h4 ⊢
    induction f with
    | nil => cases hm
    | cons s' k' a' r _ ih =>
      rcases List.mem_cons.1 hm with h | h
      · cases h; exact h4.2.1
      · exact ih h h4.2.2
theorem zip_sts {m : Tr → Tr → Tr} : ∀ (f g : Tops) (u : Int), u ∈ (zipT m f g).sts → u ∈ f.sts ∨ u ∈ g.sts
  | .nil, g, u, h => by rw [zipT] at h; exact .inr h
  | .cons s k a r, .nil, u, h => by rw [zipT] at h; exact .inl h
  | .cons s k a r, .cons t k' b r', u, h => by
    rw [zipT] at h
    split at h
    · rename_i e
      rcases List.mem_cons.1 h with h | h
      · exact .inl (by rw [h]; exact List.mem_cons_self ..)
      · rcases zip_sts (m := m) r r' u h with h | h
        · exact .inl (List.mem_cons_of_mem _ h)
        · exact .inr (List.mem_cons_of_mem _ h)
    · split at h
      · rcases List.mem_cons.1 h with h | h
        · exact .inl (by rw [h]; exact List.mem_cons_self ..)
        · rcases zip_sts (m := m) r (.cons t k' b r') u h with h | h
          · exact .inl (List.mem_cons_of_mem _ h)
          · exact .inr h
      · rcases List.mem_cons.1 h with h | h
        · exact .inr (by rw [h]; exact List.mem_cons_self ..)
        · rcases zip_sts (m := m) (.cons s k a r) r' u h with h | h
          · exact .inl h
          · exact .inr (List.mem_cons_of_mem _ h)
termination_by f g => f.len + g.len
decreasing_by all_goals (simp only [Tops.len]; omega)
theorem zip_made {m : Tr → Tr → Tr} {c d : Nat} : ∀ (f g : Tops), f.wf → g.wf → f.srt → g.srt → f.cap c → g.cap d →
    (∀ s k a k' b, (s, k, a) ∈ f.list → (s, k', b) ∈ g.list → Made (c + d) (m (k, a) (k', b))) → (zipT m f g).wf ∧ (zipT m f g).srt ∧ (zipT m f g).cap (c + d)
  | .nil, g, _, h2, _, h4, _, h6, _ => by rw [zipT]; exact ⟨h2, h4, Tops.cap_mono (by omega) h6⟩
  | .cons s k a r, .nil, h1, _, h3, _, h5, _, _ => by rw [zipT]; exact ⟨h1, h3, Tops.cap_mono (by omega) h5⟩
  | .cons s k a r, .cons t k' b r', h1, h2, h3, h4, h5, h6, h => by
    rw [zipT]
    split
    · rename_i e
      subst e
      obtain ⟨i1, i2, i3⟩ := zip_made (m := m) (c := c) (d := d) r r' h1.2.2.2 h2.2.2.2 h3.2.2 h4.2.2 h5.2.2 h6.2.2 (fun s k a k' b g1 g2 => h s k a k' b (List.mem_cons_of_mem _ g1) (List.mem_cons_of_mem _ g2))
      have hm := h s k a k' b (List.mem_cons_self ..) (List.mem_cons_self ..)
      refine ⟨⟨h1.1, hm.wf.1, hm.wf.2, i1⟩, ⟨fun u hu => ?_, hm.srt, i2⟩, ⟨hm.len, hm.cap, i3⟩⟩
      rcases zip_sts r r' u hu with h | h
      · exact h3.1 u h
      · exact h4.1 u h
    · split
      · rename_i hlt
        obtain ⟨i1, i2, i3⟩ := zip_made (m := m) (c := c) (d := d) r (.cons t k' b r') h1.2.2.2 h2 h3.2.2 h4 h5.2.2 h6 (fun s k a k' b g1 g2 => h s k a k' b (List.mem_cons_of_mem _ g1) g2)
        refine ⟨⟨h1.1, h1.2.1, h1.2.2.1, i1⟩, ⟨fun u hu => ?_, h3.2.1, i2⟩, ⟨Nat.le_trans h5.1 (by omega), Tops.cap_mono (by omega) h5.2.1, i3⟩⟩
        rcases zip_sts r _ u hu with h | h
        · exact h3.1 u h
        · rcases List.mem_cons.1 h with h | h
          · omega
          · have := h4.1 u h; omega
      · rename_i hne hlt
        obtain ⟨i1, i2, i3⟩ := zip_made (m := m) (c := c) (d := d) (.cons s k a r) r' h1 h2.2.2.2 h3 h4.2.2 h5 h6.2.2 (fun s k a k' b g1 g2 => h s k a k' b g1 (List.mem_cons_of_mem _ g2))
        refine ⟨⟨h2.1, h2.2.1, h2.2.2.1, i1⟩, ⟨fun u hu => ?_, h4.2.1, i2⟩, ⟨Nat.le_trans h6.1 (by omega), Tops.cap_mono (by omega) h6.2.1, i3⟩⟩
        rcases zip_sts (.cons s k a r) r' u hu with h | h
        · rcases List.mem_cons.1 h with h | h
          · omega
          · have := h3.1 u h; omega
        · exact h4.1 u h
termination_by f g => f.len + g.len
decreasing_by all_goals (simp only [Tops.len]; omega)
theorem mkM_made {c L : Nat} {z : Tops} (hc : c ≤ 1000) (h0 : 0 < z.len) (hl : z.len ≤ c) (hw : z.wf) (hs : z.srt) (hp : z.cap c) : Made c (mkM L z) := by
  unfold mkM
  split
  · rename_i h
    exact ⟨⟨.inr (.inl ⟨rfl, h.1⟩), hw⟩, hs, hl, hp⟩
  · exact ⟨⟨.inr (.inr ⟨rfl, h0, by simp only; omega⟩), hw⟩, hs, hl, hp⟩
theorem mrg_made (w : Bool) {c d : Nat} (hcd : c + d ≤ 1000) : ∀ (n : Nat) (x y : Tr), Made c x → Made d y → Made (c + d) (mrg w n x y)
  | 0, x, _, h, _ => h.mono (by omega)
  | n + 1, (k, f), (k', g), hx, hy => by
    rw [mrg]
    split
    · exact hx.mono (by omega)
    rename_i hne
    split
    · exact hx.mono (by omega)
    split
    · exact hy.mono (by omega)
    simp only
    obtain ⟨i1, i2, i3⟩ := zip_made (m := mrg w n) f g hx.wf.2 hy.wf.2 hx.srt hy.srt hx.cap hy.cap (fun s k a k' b h1 h2 => mrg_made w hcd n (k, a) (k', b) (hx.at_ h1) (hy.at_ h2))
    have hl := zip_len (m := mrg w n) f g
    have l1 := hx.len
    have l2 := hy.len
    simp only at l1 l2
    refine mkM_made hcd ?_ (by omega) i1 i2 i3
    rcases Nat.eq_zero_or_pos (zipT (mrg w n) f g).len with h | h
    · exfalso
      exact hne (hx.wf.nil_eq hy.wf ((Tops.isNil_len f).2 (by omega)) ((Tops.isNil_len g).2 (by omega)))
    · exact h

/-! ### how many stacks -/
theorem stkOf_pos (f : Tops) : 0 < (stkOf f).length := by
  cases h : f.isNil
  · obtain ⟨s, t, hm⟩ := stk_ne f h
    rw [stkOf_len f h]
    exact List.length_pos_of_mem hm
  · rw [Tops.isNil_eq h]; decide
theorem zip_count {m : Tr → Tr → Tr} : ∀ (f g : Tops), (∀ s k a k' b, (s, k, a) ∈ f.list → (s, k', b) ∈ g.list → (stkOf (m (k, a) (k', b)).2).length ≤ (stkOf a).length + (stkOf b).length) →
    (zipT m f g).stk.length ≤ f.stk.length + g.stk.length
  | .nil, g, _ => by rw [zipT]; simp [Tops.stk]
  | .cons s k a r, .nil, _ => by rw [zipT]; simp [Tops.stk]
  | .cons s k a r, .cons t k' b r', h => by
    rw [zipT]
    split
    · rename_i e
      subst e
      have ih := zip_count (m := m) r r' (fun s k a k' b h1 h2 => h s k a k' b (List.mem_cons_of_mem _ h1) (List.mem_cons_of_mem _ h2))
      have hm := h s k a k' b (List.mem_cons_self ..) (List.mem_cons_self ..)
      simp only [stk_cons, List.length_append, List.length_map]
      omega
    · split
      · have ih := zip_count (m := m) r (.cons t k' b r') (fun s k a k' b h1 h2 => h s k a k' b (List.mem_cons_of_mem _ h1) h2)
        simp only [stk_cons, List.length_append, List.length_map] at ih ⊢
        omega
      · have ih := zip_count (m := m) (.cons s k a r) r' (fun s k a k' b h1 h2 => h s k a k' b h1 (List.mem_cons_of_mem _ h2))
        simp only [stk_cons, List.length_append, List.length_map] at ih ⊢
        omega
termination_by f g => f.len + g.len
decreasing_by all_goals (simp only [Tops.len]; omega)
theorem stk_le_stkOf (f : Tops) : f.stk.length ≤ (stkOf f).length := by
  cases h : f.isNil
  · rw [stkOf_len f h]; exact Nat.le_refl _
  · rw [Tops.isNil_eq h]; decide
theorem mrg_count (w : Bool) : ∀ (n : Nat) (x y : Tr), Wf x.1 x.2 → Wf y.1 y.2 → (stkOf (mrg w n x y).2).length ≤ (stkOf x.2).length + (stkOf y.2).length
  | 0, x, _, _, _ => by rw [mrg]; omega
  | n + 1, (k, f), (k', g), hx, hy => by
    rw [mrg]
    split
    · omega
    rename_i hne
    split
    · omega
    split
    · omega
    have hz : ∀ L z, (mkM L z).2 = z := fun L z => by unfold mkM; split <;> rfl
    rw [hz]
    simp only
    have h1 := zip_count (m := mrg w n) f g (fun s k a k' b h1 h2 => mrg_count w n (k, a) (k', b) (Tops.list_wf hx.2 h1).2 (Tops.list_wf hy.2 h2).2)
    have h2 := stk_le_stkOf f
    have h3 := stk_le_stkOf g
    have hl := zip_len (m := mrg w n) f g
    cases hn : (zipT (mrg w n) f g).isNil
    · rw [stkOf_len _ hn]; omega
    · rw [Tops.isNil_len] at hn
      exfalso
      exact hne (hx.nil_eq hy ((Tops.isNil_len f).2 (by omega)) ((Tops.isNil_len g).2 (by omega)))
end Go.Proofs.Ytcbabfndfikejaa
