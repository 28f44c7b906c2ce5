/- Q2, in one: The merge of two choices as a function on trees, and the stacks of its outcome. No program in sight. The walk of spec.Stacks: the stacks of the choice that a node stands for; told to be too many just if there are more than 120. Condition: the table's parents stand ahead. The walks that compare lists of stacks: begins, same, has, within, Same, Apart. Condition: the lists read, and are small. The walk of spec.Apart. Condition: the list reads, and is small. The walk of laws.two: the stacks of two choices together. Condition: the table reads and is not too long. The walks that read what is below a choice; what stays while a call writes to known blocks; choices closed under what is below. Condition: the choices lie in memory. -/
import Derived.Test.YtcbabfndfikejaaZ1
import Derived.Test.YtcbabfndfikejaaZ2
import Derived.Handy
/- The merge of two choices as a function on trees, and the stacks of its outcome. No program in sight. -/
namespace Go.Proofs.Ytcbabfndfikejaa
abbrev Tr := Nat × Tops
/-- the tops of two, merged by their states -/
def zipT (m : Tr → Tr → Tr) : Tops → Tops → Tops
  | .nil, g => g
  | .cons s k a r, .nil => .cons s k a r
  | .cons s k a r, .cons t k' b r' =>
    if s = t then .cons s (m (k, a) (k', b)).1 (m (k, a) (k', b)).2 (zipT m r r')
    else if s < t then .cons s k a (zipT m r (.cons t k' b r'))
    else .cons t k' b (zipT m (.cons s k a r) r')
termination_by f g => f.len + g.len
decreasing_by all_goals (simp only [Tops.len]; omega)
/-- what the merged tops become: L is how many there were in both -/
def mkM (L : Nat) (z : Tops) : Tr := if z.len = 1 ∧ 1 < L then (1, z) else (2, z)
/-- THE MERGE, with fuel -/
def mrg (w : Bool) : Nat → Tr → Tr → Tr
  | 0, x, _ => x
  | n + 1, x, y => if x = y then x else if w = true ∧ x.1 = 0 then x else if w = true ∧ y.1 = 0 then y else mkM (x.2.len + y.2.len) (zipT (mrg w n) x.2 y.2)
def Tops.list : Tops → List (Int × Nat × Tops)
  | .nil => []
  | .cons s k a r => (s, k, a) :: r.list
def Tops.isNil : Tops → Bool
  | .nil => true
  | .cons .. => false
theorem Tops.isNil_eq : ∀ {f : Tops}, f.isNil = true → f = .nil
  | .nil, _ => rfl
theorem Tops.list_length : ∀ f : Tops, f.list.length = f.len
  | .nil => rfl
  | .cons _ _ _ r => by simp [Tops.list, Tops.len, Tops.list_length r]
/-- the stacks of a choice that has tops -/
def Tops.stk : Tops → List (List Int)
  | .nil => []
  | .cons s _ a r => (if a.isNil then [[]] else a.stk).map (s :: ·) ++ r.stk
/-- the stacks of a choice -/
def stkOf (f : Tops) : List (List Int) := if f.isNil then [[]] else f.stk
theorem stk_cons (s : Int) (k : Nat) (a r : Tops) : (Tops.cons s k a r).stk = (stkOf a).map (s :: ·) ++ r.stk := rfl
theorem stkOf_nil : stkOf .nil = [[]] := rfl
theorem stkOf_cons (s : Int) (k : Nat) (a r : Tops) : stkOf (.cons s k a r) = (Tops.cons s k a r).stk := rfl
theorem stkOf_len : ∀ f : Tops, f.isNil = false → stkOf f = f.stk
  | .cons .., _ => rfl
/-- a stack is in a list, or, with a wildcard below each, begins with one of it -/
def hasW (w : Bool) (L : List (List Int)) (st : List Int) : Prop := ∃ p ∈ L, p = st ∨ (w = true ∧ p <+: st)
theorem hasW_self {w : Bool} {L : List (List Int)} {st : List Int} (h : st ∈ L) : hasW w L st := ⟨st, h, .inl rfl⟩
theorem hasW_append {w : Bool} {L M : List (List Int)} {st : List Int} : hasW w (L ++ M) st ↔ hasW w L st ∨ hasW w M st := by
  unfold hasW
  constructor
  · rintro ⟨p, hp, h⟩
    rcases List.mem_append.1 hp with h1 | h1
    · exact .inl ⟨p, h1, h⟩
    · exact .inr ⟨p, h1, h⟩
  · rintro (⟨p, hp, h⟩ | ⟨p, hp, h⟩)
    · exact ⟨p, List.mem_append_left _ hp, h⟩
    · exact ⟨p, List.mem_append_right _ hp, h⟩
theorem hasW_map {w : Bool} {L : List (List Int)} {s : Int} {st : List Int} : hasW w (L.map (s :: ·)) st ↔ ∃ t, st = s :: t ∧ hasW w L t := by
  unfold hasW
  constructor
  · rintro ⟨p, hp, h⟩
    obtain ⟨q, hq, rfl⟩ := List.mem_map.1 hp
    rcases h with rfl | ⟨hw, h⟩
    · exact ⟨q, rfl, q, hq, .inl rfl⟩
    · obtain ⟨u, rfl⟩ := h
      exact ⟨q ++ u, rfl, q, hq, .inr ⟨hw, u, rfl⟩⟩
  · rintro ⟨t, rfl, q, hq, h⟩
    refine ⟨s :: q, List.mem_map.2 ⟨q, hq, rfl⟩, ?_⟩
    rcases h with rfl | ⟨hw, u, rfl⟩
    · exact .inl rfl
    · exact .inr ⟨hw, u, rfl⟩
theorem hasW_cons {w : Bool} {s : Int} {k : Nat} {a r : Tops} {st : List Int} : hasW w (Tops.cons s k a r).stk st ↔ (∃ t, st = s :: t ∧ hasW w (stkOf a) t) ∨ hasW w r.stk st := by
  rw [stk_cons, hasW_append, hasW_map]
theorem hasW_none {w : Bool} {st : List Int} : ¬ hasW w [] st := by rintro ⟨p, hp, _⟩; cases hp
/-- merged tops have the stacks of both, if what is merged below has -/
theorem zip_has {w : Bool} {m : Tr → Tr → Tr} : ∀ (f g : Tops), (∀ s k a k' b, (s, k, a) ∈ f.list → (s, k', b) ∈ g.list → ∀ t, hasW w (stkOf (m (k, a) (k', b)).2) t ↔ hasW w (stkOf a) t ∨ hasW w (stkOf b) t) →
    ∀ st, hasW w (zipT m f g).stk st ↔ hasW w f.stk st ∨ hasW w g.stk st
  | .nil, g, _, st => by rw [zipT]; simp [Tops.stk, hasW_none]
  | .cons s k a r, .nil, _, st => by rw [zipT]; simp [Tops.stk, hasW_none]
  | .cons s k a r, .cons t k' b r', h, st => by
    rw [zipT]
    split
    · rename_i e
      subst e
      have ih := zip_has (m := m) (w := w) r r' (fun s k a k' b h1 h2 => h s k a k' b (List.mem_cons_of_mem _ h1) (List.mem_cons_of_mem _ h2)) st
      have hm := h s k a k' b (List.mem_cons_self ..) (List.mem_cons_self ..)
      rw [hasW_cons, hasW_cons, hasW_cons, ih]
      constructor
      · rintro (⟨u, rfl, hu⟩ | h1 | h1)
        · rcases (hm u).1 hu with h2 | h2
          · exact .inl (.inl ⟨u, rfl, h2⟩)
          · exact .inr (.inl ⟨u, rfl, h2⟩)
        · exact .inl (.inr h1)
        · exact .inr (.inr h1)
      · rintro ((⟨u, rfl, hu⟩ | h1) | ⟨u, rfl, hu⟩ | h1)
        · exact .inl ⟨u, rfl, (hm u).2 (.inl hu)⟩
        · exact .inr (.inl h1)
        · exact .inl ⟨u, rfl, (hm u).2 (.inr hu)⟩
        · exact .inr (.inr h1)
    · split
      · have ih := zip_has (m := m) (w := w) r (.cons t k' b r') (fun s k a k' b h1 h2 => h s k a k' b (List.mem_cons_of_mem _ h1) h2) st
        rw [hasW_cons, hasW_cons (a := a), ih]
        constructor
        · rintro (h1 | h1 | h1)
          · exact .inl (.inl h1)
          · exact .inl (.inr h1)
          · exact .inr h1
        · rintro ((h1 | h1) | h1)
          · exact .inl h1
          · exact .inr (.inl h1)
          · exact .inr (.inr h1)
      · have ih := zip_has (m := m) (w := w) (.cons s k a r) r' (fun s k a k' b h1 h2 => h s k a k' b h1 (List.mem_cons_of_mem _ h2)) st
        rw [hasW_cons, hasW_cons (a := b), ih]
        constructor
        · rintro (h1 | h1 | h1)
          · exact .inr (.inl h1)
          · exact .inl h1
          · exact .inr (.inr h1)
        · rintro (h1 | h1 | h1)
          · exact .inr (.inl h1)
          · exact .inl h1
          · exact .inr (.inr h1)
termination_by f g => f.len + g.len
decreasing_by all_goals (simp only [Tops.len]; omega)
theorem zip_len {m : Tr → Tr → Tr} : ∀ (f g : Tops), f.len ≤ (zipT m f g).len ∧ g.len ≤ (zipT m f g).len ∧ (zipT m f g).len ≤ f.len + g.len
  | .nil, g => by rw [zipT]; simp [Tops.len]
  | .cons s k a r, .nil => by rw [zipT]; simp [Tops.len]
  | .cons s k a r, .cons t k' b r' => by
    rw [zipT]
    split
    · have ih := zip_len (m := m) r r'; simp only [Tops.len]; omega
    · split
      · have ih := zip_len (m := m) r (.cons t k' b r'); simp only [Tops.len] at ih ⊢; omega
      · have ih := zip_len (m := m) (.cons s k a r) r'; simp only [Tops.len] at ih ⊢; omega
termination_by f g => f.len + g.len
decreasing_by all_goals (simp only [Tops.len]; omega)
theorem Tops.isNil_len : ∀ f : Tops, f.isNil = true ↔ f.len = 0
  | .nil => by simp [Tops.isNil, Tops.len]
  | .cons .. => by simp [Tops.isNil, Tops.len]
theorem Tops.notNil {f : Tops} (h : 0 < f.len) : f.isNil = false := by
  cases f
  · simp [Tops.len] at h
  · rfl
/-- no stack is the beginning of a longer one -/
def ApartL (L : List (List Int)) : Prop := ∀ a ∈ L, ∀ b ∈ L, a.length < b.length → ¬ a <+: b
theorem stk_ne : ∀ f : Tops, f.isNil = false → ∃ s t, (s :: t) ∈ f.stk
  | .cons s k a r, _ => by
    cases ha : a.isNil
    · obtain ⟨s', t', h⟩ := stk_ne a ha
      exact ⟨s, s' :: t', by rw [stk_cons, stkOf_len a ha]; exact List.mem_append_left _ (List.mem_map.2 ⟨_, h, rfl⟩)⟩
    · exact ⟨s, [], by rw [stk_cons, Tops.isNil_eq ha, stkOf_nil]; simp⟩
theorem mem_stk {f : Tops} {s : Int} {k : Nat} {a : Tops} {t : List Int} (h : (s, k, a) ∈ f.list) (ht : t ∈ stkOf a) : s :: t ∈ f.stk := by
  induction f with
  | nil => cases h
  | cons s' k' a' r _ ih =>
    rw [stk_cons]
    rcases List.mem_cons.1 h with h | h
    · cases h
      exact List.mem_append_left _ (List.mem_map.2 ⟨_, ht, rfl⟩)
    · exact List.mem_append_right _ (ih h)
theorem Tops.list_size {f : Tops} {s : Int} {k : Nat} {a : Tops} (h : (s, k, a) ∈ f.list) : a.size < f.size := by
  induction f with
  | nil => cases h
  | cons s' k' a' r _ ih =>
    simp only [Tops.size]
    rcases List.mem_cons.1 h with h | h
    · cases h; omega
    · have := ih h; omega
theorem Tops.list_wf {f : Tops} (hw : f.wf) {s : Int} {k : Nat} {a : Tops} (h : (s, k, a) ∈ f.list) : (0 ≤ s ∧ s ≤ 1000) ∧ Wf k a := by
  induction f with
  | nil => cases h
  | cons s' k' a' r _ ih =>
    rcases List.mem_cons.1 h with h | h
    · cases h; exact ⟨hw.1, hw.2.1, hw.2.2.1⟩
    · exact ih hw.2.2.2 h
theorem Wf.nil_zero {k : Nat} {f : Tops} (h : Wf k f) : f.isNil = true ↔ k = 0 := by
  rw [Tops.isNil_len]
  rcases h.1 with ⟨h1, h2⟩ | ⟨h1, h2⟩ | ⟨h1, h2, _⟩
  · subst h1; subst h2; simp [Tops.len]
  · omega
  · omega
theorem Wf.nil_eq {k k' : Nat} {f f' : Tops} (h : Wf k f) (h' : Wf k' f') (hn : f.isNil = true) (hn' : f'.isNil = true) : (k, f) = (k', f') := by
  rw [h.nil_zero.1 hn, h'.nil_zero.1 hn', Tops.isNil_eq hn, Tops.isNil_eq hn']
theorem hasW_top {st : List Int} : hasW true [[]] st := ⟨[], by simp, .inr ⟨rfl, List.nil_prefix⟩⟩
/-- THE STACKS OF A MERGE -/
theorem mrg_has (w : Bool) : ∀ (n : Nat) (x y : Tr), x.2.size < n → Wf x.1 x.2 → Wf y.1 y.2 → (w = true ∨ ApartL (stkOf x.2 ++ stkOf y.2)) →
    ∀ st, hasW w (stkOf (mrg w n x y).2) st ↔ hasW w (stkOf x.2) st ∨ hasW w (stkOf y.2) st
  | 0, _, _, h, _, _, _, _ => absurd h (by omega)
  | n + 1, (k, f), (k', g), hsz, hx, hy, hap, st => by
    rw [mrg]
    split
    · rename_i e; rw [e]; simp
    rename_i hne
    split
    · rename_i e
      obtain ⟨rfl, e0⟩ := e
      have : f = .nil := Tops.isNil_eq (hx.nil_zero.2 e0)
      subst this
      simp [stkOf_nil, hasW_top]
    rename_i hw1
    split
    · rename_i e
      obtain ⟨rfl, e0⟩ := e
      have : g = .nil := Tops.isNil_eq (hy.nil_zero.2 e0)
      subst this
      simp [stkOf_nil, hasW_top]
    rename_i hw2
    have hz : ∀ L z, (mkM L z).2 = z := fun L z => by unfold mkM; split <;> rfl
    simp only at hw1 hw2 hsz hx hy hap
    rw [hz]
    show hasW w (stkOf (zipT (mrg w n) f g)) st ↔ hasW w (stkOf f) st ∨ hasW w (stkOf g) st
    have bad : ∀ (u v : Tops), ApartL (stkOf u ++ stkOf v) → u.isNil = true → v.isNil = false → False := fun u v ha hu hv => by
      obtain ⟨s, t, h⟩ := stk_ne v hv
      rw [Tops.isNil_eq hu, stkOf_nil, stkOf_len v hv] at ha
      exact ha [] (by simp) (s :: t) (List.mem_append_right _ h) (by simp) List.nil_prefix
    have hf : f.isNil = false := by
      cases hf : f.isNil
      · rfl
      · exfalso
        rcases hap with rfl | hap
        · exact hw1 ⟨rfl, hx.nil_zero.1 hf⟩
        · cases hg : g.isNil
          · exact bad f g hap hf hg
          · exact hne (hx.nil_eq hy hf hg)
    have hg : g.isNil = false := by
      cases hg : g.isNil
      · rfl
      · exfalso
        rcases hap with rfl | hap
        · exact hw2 ⟨rfl, hy.nil_zero.1 hg⟩
        · refine bad g f (fun a ha b hb => ?_) hg hf
          exact hap a (by simp only [List.mem_append] at ha ⊢; exact ha.symm) b (by simp only [List.mem_append] at hb ⊢; exact hb.symm)
    have hl : 0 < f.len := by
      rcases Nat.eq_zero_or_pos f.len with h | h
      · rw [(Tops.isNil_len f).2 h] at hf; cases hf
      · exact h
    rw [stkOf_len _ (Tops.notNil (Nat.lt_of_lt_of_le hl (zip_len (m := mrg w n) f g).1)), stkOf_len f hf, stkOf_len g hg]
    refine zip_has f g (fun s k a k' b h1 h2 t => ?_) st
    refine mrg_has w n (k, a) (k', b) (by have := Tops.list_size h1; simp only; omega) (Tops.list_wf hx.2 h1).2 (Tops.list_wf hy.2 h2).2 ?_ t
    rcases hap with hap | hap
    · exact .inl hap
    refine .inr fun a1 ha1 b1 hb1 hlt hpre => ?_
    rw [stkOf_len f hf, stkOf_len g hg] at hap
    have lift : ∀ t, t ∈ stkOf a ++ stkOf b → s :: t ∈ f.stk ++ g.stk := fun t ht => by
      rcases List.mem_append.1 ht with h | h
      · exact List.mem_append_left _ (mem_stk h1 h)
      · exact List.mem_append_right _ (mem_stk h2 h)
    exact hap _ (lift a1 ha1) _ (lift b1 hb1) (by simp; omega) (by simpa using hpre)
/-! ### it does not matter which comes first -/
theorem zip_comm {m m' : Tr → Tr → Tr} : ∀ (f g : Tops), (∀ s k a k' b, (s, k, a) ∈ f.list → (s, k', b) ∈ g.list → m (k, a) (k', b) = m' (k', b) (k, a)) → zipT m f g = zipT m' g f
  | .nil, .nil, _ => by rw [zipT, zipT]
  | .nil, .cons .., _ => by rw [zipT, zipT]
  | .cons s k a r, .nil, _ => by rw [zipT, zipT]
  | .cons s k a r, .cons t k' b r', h => by
    rw [zipT, zipT]
    by_cases e : s = t
    · subst e
      rw [if_pos rfl, if_pos rfl, h s k a k' b (List.mem_cons_self ..) (List.mem_cons_self ..),
        zip_comm (m := m) (m' := m') r r' (fun s k a k' b h1 h2 => h s k a k' b (List.mem_cons_of_mem _ h1) (List.mem_cons_of_mem _ h2))]
    · have e' : ¬ t = s := fun h => e h.symm
      rw [if_neg e, if_neg e']
      by_cases hlt : s < t
      · rw [if_pos hlt, if_neg (by omega), zip_comm (m := m) (m' := m') r (.cons t k' b r') (fun s k a k' b h1 h2 => h s k a k' b (List.mem_cons_of_mem _ h1) h2)]
      · rw [if_neg hlt, if_pos (by omega), zip_comm (m := m) (m' := m') (.cons s k a r) r' (fun s k a k' b h1 h2 => h s k a k' b h1 (List.mem_cons_of_mem _ h2))]
termination_by f g => f.len + g.len
decreasing_by all_goals (simp only [Tops.len]; omega)
theorem mrg_comm (w : Bool) : ∀ (n n' : Nat) (x y : Tr), x.2.size < n → y.2.size < n' → Wf x.1 x.2 → Wf y.1 y.2 → mrg w n x y = mrg w n' y x
  | 0, _, _, _, h, _, _, _ => absurd h (by omega)
  | _ + 1, 0, _, _, _, h, _, _ => absurd h (by omega)
  | n + 1, n' + 1, (k, f), (k', g), hsz, hsz', hx, hy => by
    rw [mrg, mrg]
    simp only at hsz hsz' hx hy ⊢
    by_cases e : (k, f) = (k', g)
    · rw [if_pos e, if_pos e.symm]; exact e
    · have e' : ¬ (k', g) = (k, f) := fun h => e h.symm
      rw [if_neg e, if_neg e']
      by_cases h1 : w = true ∧ k = 0
      · have h2 : ¬ (w = true ∧ k' = 0) := fun h2 => e (hx.nil_eq hy (hx.nil_zero.2 h1.2) (hy.nil_zero.2 h2.2))
        rw [if_pos h1, if_neg h2, if_pos h1]
      · rw [if_neg h1]
        by_cases h2 : w = true ∧ k' = 0
        · rw [if_pos h2, if_pos h2]
        · rw [if_neg h2, if_neg h2, if_neg h1, Nat.add_comm g.len f.len]
          rw [zip_comm (m' := mrg w n') f g]
          intro s k a k' b h1 h2
          exact mrg_comm w n n' (k, a) (k', b) (by have := Tops.list_size h1; simp only; omega) (by have := Tops.list_size h2; simp only; omega) (Tops.list_wf hx.2 h1).2 (Tops.list_wf hy.2 h2).2
/-! ### the outcome is well made -/
/-- ascending tops, all the way down -/
def Tops.srt : Tops → Prop
  | .nil => True
  | .cons s _ a r => (∀ t ∈ r.sts, s < t) ∧ a.srt ∧ r.srt
/-- at most c tops, all the way down -/
def Tops.cap (c : Nat) : Tops → Prop
  | .nil => True
  | .cons _ _ a r => a.len ≤ c ∧ a.cap c ∧ r.cap c
theorem Tops.cap_mono {c d : Nat} (hcd : c ≤ d) : ∀ {f : Tops}, f.cap c → f.cap d
  | .nil, _ => trivial
  | .cons _ _ _ _, h => ⟨Nat.le_trans h.1 hcd, Tops.cap_mono hcd h.2.1, Tops.cap_mono hcd h.2.2⟩
/-- a choice that is well made: its kinds fit, its tops ascend, there are at most c of them -/
structure Made (c : Nat) (x : Tr) : Prop where
  wf : Wf x.1 x.2
  srt : x.2.srt
  len : x.2.len ≤ c
  cap : x.2.cap c
theorem Made.mono {c d : Nat} {x : Tr} (h : Made c x) (hcd : c ≤ d) : Made d x := ⟨h.wf, h.srt, Nat.le_trans h.len hcd, Tops.cap_mono hcd h.cap⟩
theorem Made.at_ {c : Nat} {x : Tr} (h : Made c x) {s : Int} {k : Nat} {a : Tops} (hm : (s, k, a) ∈ x.2.list) : Made c (k, a) := by
  obtain ⟨k0, f⟩ := x
  obtain ⟨h1, h2, h3, h4⟩ := h
  refine ⟨(Tops.list_wf h1.2 hm).2, ?_, ?_, ?_⟩
  · clear h1 h3 h4
    simp only at hm h2 ⊢
    induction f with
    | nil => cases hm
    | cons s' k' a' r _ ih =>
      rcases List.mem_cons.1 hm with h | h
      · cases h; exact h2.2.1
      · exact ih h h2.2.2
  · clear h1 h2 h3
    simp only at hm h4 ⊢
    induction f with
    | nil => cases hm
    | cons s' k' a' r _ ih =>
      rcases List.mem_cons.1 hm with h | h
      · cases h; exact h4.1
      · exact ih h h4.2.2
  · clear h1 h2 h3
    simp only at hm h4 ⊢
    induction f with
    | nil => cases hm
    | cons s' k' a' r _ ih =>
      rcases List.mem_cons.1 hm with h | h
      · cases h; exact h4.2.1
      · exact ih h h4.2.2
theorem zip_sts {m : Tr → Tr → Tr} : ∀ (f g : Tops) (u : Int), u ∈ (zipT m f g).sts → u ∈ f.sts ∨ u ∈ g.sts
  | .nil, g, u, h => by rw [zipT] at h; exact .inr h
  | .cons s k a r, .nil, u, h => by rw [zipT] at h; exact .inl h
  | .cons s k a r, .cons t k' b r', u, h => by
    rw [zipT] at h
    split at h
    · rename_i e
      rcases List.mem_cons.1 h with h | h
      · exact .inl (by rw [h]; exact List.mem_cons_self ..)
      · rcases zip_sts (m := m) r r' u h with h | h
        · exact .inl (List.mem_cons_of_mem _ h)
        · exact .inr (List.mem_cons_of_mem _ h)
    · split at h
      · rcases List.mem_cons.1 h with h | h
        · exact .inl (by rw [h]; exact List.mem_cons_self ..)
        · rcases zip_sts (m := m) r (.cons t k' b r') u h with h | h
          · exact .inl (List.mem_cons_of_mem _ h)
          · exact .inr h
      · rcases List.mem_cons.1 h with h | h
        · exact .inr (by rw [h]; exact List.mem_cons_self ..)
        · rcases zip_sts (m := m) (.cons s k a r) r' u h with h | h
          · exact .inl h
          · exact .inr (List.mem_cons_of_mem _ h)
termination_by f g => f.len + g.len
decreasing_by all_goals (simp only [Tops.len]; omega)
theorem zip_made {m : Tr → Tr → Tr} {c d : Nat} : ∀ (f g : Tops), f.wf → g.wf → f.srt → g.srt → f.cap c → g.cap d →
    (∀ s k a k' b, (s, k, a) ∈ f.list → (s, k', b) ∈ g.list → Made (c + d) (m (k, a) (k', b))) → (zipT m f g).wf ∧ (zipT m f g).srt ∧ (zipT m f g).cap (c + d)
  | .nil, g, _, h2, _, h4, _, h6, _ => by rw [zipT]; exact ⟨h2, h4, Tops.cap_mono (by omega) h6⟩
  | .cons s k a r, .nil, h1, _, h3, _, h5, _, _ => by rw [zipT]; exact ⟨h1, h3, Tops.cap_mono (by omega) h5⟩
  | .cons s k a r, .cons t k' b r', h1, h2, h3, h4, h5, h6, h => by
    rw [zipT]
    split
    · rename_i e
      subst e
      obtain ⟨i1, i2, i3⟩ := zip_made (m := m) (c := c) (d := d) r r' h1.2.2.2 h2.2.2.2 h3.2.2 h4.2.2 h5.2.2 h6.2.2 (fun s k a k' b g1 g2 => h s k a k' b (List.mem_cons_of_mem _ g1) (List.mem_cons_of_mem _ g2))
      have hm := h s k a k' b (List.mem_cons_self ..) (List.mem_cons_self ..)
      refine ⟨⟨h1.1, hm.wf.1, hm.wf.2, i1⟩, ⟨fun u hu => ?_, hm.srt, i2⟩, ⟨hm.len, hm.cap, i3⟩⟩
      rcases zip_sts r r' u hu with h | h
      · exact h3.1 u h
      · exact h4.1 u h
    · split
      · rename_i hlt
        obtain ⟨i1, i2, i3⟩ := zip_made (m := m) (c := c) (d := d) r (.cons t k' b r') h1.2.2.2 h2 h3.2.2 h4 h5.2.2 h6 (fun s k a k' b g1 g2 => h s k a k' b (List.mem_cons_of_mem _ g1) g2)
        refine ⟨⟨h1.1, h1.2.1, h1.2.2.1, i1⟩, ⟨fun u hu => ?_, h3.2.1, i2⟩, ⟨Nat.le_trans h5.1 (by omega), Tops.cap_mono (by omega) h5.2.1, i3⟩⟩
        rcases zip_sts r _ u hu with h | h
        · exact h3.1 u h
        · rcases List.mem_cons.1 h with h | h
          · omega
          · have := h4.1 u h; omega
      · rename_i hne hlt
        obtain ⟨i1, i2, i3⟩ := zip_made (m := m) (c := c) (d := d) (.cons s k a r) r' h1 h2.2.2.2 h3 h4.2.2 h5 h6.2.2 (fun s k a k' b g1 g2 => h s k a k' b g1 (List.mem_cons_of_mem _ g2))
        refine ⟨⟨h2.1, h2.2.1, h2.2.2.1, i1⟩, ⟨fun u hu => ?_, h4.2.1, i2⟩, ⟨Nat.le_trans h6.1 (by omega), Tops.cap_mono (by omega) h6.2.1, i3⟩⟩
        rcases zip_sts (.cons s k a r) r' u hu with h | h
        · rcases List.mem_cons.1 h with h | h
          · omega
          · have := h3.1 u h; omega
        · exact h4.1 u h
termination_by f g => f.len + g.len
decreasing_by all_goals (simp only [Tops.len]; omega)
theorem mkM_made {c L : Nat} {z : Tops} (hc : c ≤ 1000) (h0 : 0 < z.len) (hl : z.len ≤ c) (hw : z.wf) (hs : z.srt) (hp : z.cap c) : Made c (mkM L z) := by
  unfold mkM
  split
  · rename_i h
    exact ⟨⟨.inr (.inl ⟨rfl, h.1⟩), hw⟩, hs, hl, hp⟩
  · exact ⟨⟨.inr (.inr ⟨rfl, h0, by simp only; omega⟩), hw⟩, hs, hl, hp⟩
theorem mrg_made (w : Bool) {c d : Nat} (hcd : c + d ≤ 1000) : ∀ (n : Nat) (x y : Tr), Made c x → Made d y → Made (c + d) (mrg w n x y)
  | 0, x, _, h, _ => h.mono (by omega)
  | n + 1, (k, f), (k', g), hx, hy => by
    rw [mrg]
    split
    · exact hx.mono (by omega)
    rename_i hne
    split
    · exact hx.mono (by omega)
    split
    · exact hy.mono (by omega)
    simp only
    obtain ⟨i1, i2, i3⟩ := zip_made (m := mrg w n) f g hx.wf.2 hy.wf.2 hx.srt hy.srt hx.cap hy.cap (fun s k a k' b h1 h2 => mrg_made w hcd n (k, a) (k', b) (hx.at_ h1) (hy.at_ h2))
    have hl := zip_len (m := mrg w n) f g
    have l1 := hx.len
    have l2 := hy.len
    simp only at l1 l2
    refine mkM_made hcd ?_ (by omega) i1 i2 i3
    rcases Nat.eq_zero_or_pos (zipT (mrg w n) f g).len with h | h
    · exfalso
      exact hne (hx.wf.nil_eq hy.wf ((Tops.isNil_len f).2 (by omega)) ((Tops.isNil_len g).2 (by omega)))
    · exact h
/-! ### how many stacks -/
theorem stkOf_pos (f : Tops) : 0 < (stkOf f).length := by
  cases h : f.isNil
  · obtain ⟨s, t, hm⟩ := stk_ne f h
    rw [stkOf_len f h]
    exact List.length_pos_of_mem hm
  · rw [Tops.isNil_eq h]; decide
theorem zip_count {m : Tr → Tr → Tr} : ∀ (f g : Tops), (∀ s k a k' b, (s, k, a) ∈ f.list → (s, k', b) ∈ g.list → (stkOf (m (k, a) (k', b)).2).length ≤ (stkOf a).length + (stkOf b).length) →
    (zipT m f g).stk.length ≤ f.stk.length + g.stk.length
  | .nil, g, _ => by rw [zipT]; simp [Tops.stk]
  | .cons s k a r, .nil, _ => by rw [zipT]; simp [Tops.stk]
  | .cons s k a r, .cons t k' b r', h => by
    rw [zipT]
    split
    · rename_i e
      subst e
      have ih := zip_count (m := m) r r' (fun s k a k' b h1 h2 => h s k a k' b (List.mem_cons_of_mem _ h1) (List.mem_cons_of_mem _ h2))
      have hm := h s k a k' b (List.mem_cons_self ..) (List.mem_cons_self ..)
      simp only [stk_cons, List.length_append, List.length_map]
      omega
    · split
      · have ih := zip_count (m := m) r (.cons t k' b r') (fun s k a k' b h1 h2 => h s k a k' b (List.mem_cons_of_mem _ h1) h2)
        simp only [stk_cons, List.length_append, List.length_map] at ih ⊢
        omega
      · have ih := zip_count (m := m) (.cons s k a r) r' (fun s k a k' b h1 h2 => h s k a k' b h1 (List.mem_cons_of_mem _ h2))
        simp only [stk_cons, List.length_append, List.length_map] at ih ⊢
        omega
termination_by f g => f.len + g.len
decreasing_by all_goals (simp only [Tops.len]; omega)
theorem stk_le_stkOf (f : Tops) : f.stk.length ≤ (stkOf f).length := by
  cases h : f.isNil
  · rw [stkOf_len f h]; exact Nat.le_refl _
  · rw [Tops.isNil_eq h]; decide
theorem mrg_count (w : Bool) : ∀ (n : Nat) (x y : Tr), Wf x.1 x.2 → Wf y.1 y.2 → (stkOf (mrg w n x y).2).length ≤ (stkOf x.2).length + (stkOf y.2).length
  | 0, x, _, _, _ => by rw [mrg]; omega
  | n + 1, (k, f), (k', g), hx, hy => by
    rw [mrg]
    split
    · omega
    rename_i hne
    split
    · omega
    split
    · omega
    have hz : ∀ L z, (mkM L z).2 = z := fun L z => by unfold mkM; split <;> rfl
    rw [hz]
    simp only
    have h1 := zip_count (m := mrg w n) f g (fun s k a k' b h1 h2 => mrg_count w n (k, a) (k', b) (Tops.list_wf hx.2 h1).2 (Tops.list_wf hy.2 h2).2)
    have h2 := stk_le_stkOf f
    have h3 := stk_le_stkOf g
    have hl := zip_len (m := mrg w n) f g
    cases hn : (zipT (mrg w n) f g).isNil
    · rw [stkOf_len _ hn]; omega
    · rw [Tops.isNil_len] at hn
      exfalso
      exact hne (hx.nil_eq hy ((Tops.isNil_len f).2 (by omega)) ((Tops.isNil_len g).2 (by omega)))
end Go.Proofs.Ytcbabfndfikejaa
/- The walk of spec.Stacks: the stacks of the choice that a node stands for; told to be too many just if there are more than 120. Condition: the table's parents stand ahead. -/
namespace Go.Proofs.Ytcbabfndfikejaa
open Go.RowKit
set_option linter.unusedSimpArgs false
/-! ### lists of stacks in memory -/
def Rows2 (w : World) (us : List Value) (L : List (List Int)) : Prop := us.length = L.length ∧ ∀ (j : Nat) u, us[j]? = some u → ∃ l A c, L[j]? = some l ∧ u = .slice A l.length c ∧ Row w NoX 3 A l.length (ints l)
/-- A list of stacks reads. -/
def Stks (w : World) (A : Option Addr) (L : List (List Int)) : Prop := ∃ us, Reads w w.heap.size 1 A L.length us ∧ Rows2 w us L
theorem Rows2.stay {w w' : World} {us : List Value} {L : List (List Int)} (h : Rows2 w us L) (hs : Stay w w') : Rows2 w' us L :=
  ⟨h.1, fun j u hu => by
    obtain ⟨l, A, c, h1, h2, h3⟩ := h.2 j u hu
    exact ⟨l, A, c, h1, h2, h3.stay hs (.inr (.inr rfl))⟩⟩
theorem Rows2.snoc {w : World} {us : List Value} {L : List (List Int)} (h : Rows2 w us L) {l : List Int} {A : Option Addr} {c : Nat} (hr : Row w NoX 3 A l.length (ints l)) : Rows2 w (us ++ [.slice A l.length c]) (L ++ [l]) := by
  refine ⟨by simp [h.1], fun j u hu => ?_⟩
  rcases Nat.lt_or_ge j us.length with hlt | hge
  · rw [List.getElem?_append_left hlt] at hu
    obtain ⟨l', A', c', h1, h2, h3⟩ := h.2 j u hu
    exact ⟨l', A', c', by rw [List.getElem?_append_left (by rw [← h.1]; exact hlt)]; exact h1, h2, h3⟩
  · rw [List.getElem?_append_right hge] at hu
    have hj : j = us.length := by
      rcases Nat.eq_zero_or_pos (j - us.length) with h0 | h0
      · omega
      · rw [List.getElem?_eq_none (by simp; omega)] at hu; cases hu
    subst hj
    simp at hu
    subst hu
    exact ⟨l, A, c, by rw [h.1]; simp, rfl, hr⟩
theorem Stks.ext {w w' : World} {A : Option Addr} {L : List (List Int)} (h : Stks w A L) (hb : Below w.heap.size w w') : Stks w' A L := by
  obtain ⟨us, h1, h2⟩ := h
  exact ⟨us, h1.ext hb, h2.stay (Stay.of_below hb)⟩
theorem Stks.nil_ {w : World} : Stks w none [] := ⟨[], Reads.none_, rfl, fun j u hu => by simp at hu⟩
/-- Stack j of a list. -/
theorem Stks.at_ {w : World} {A : Option Addr} {L : List (List Int)} (h : Stks w A L) {j : Nat} {l : List Int} (hj : L[j]? = some l) :
    ∃ b off A' c, A = some ⟨b, off, none⟩ ∧ w.cell? ⟨b, off + j, none⟩ = some (.slice A' l.length c) ∧ Row w NoX 3 A' l.length (ints l) := by
  obtain ⟨us, h1, h2⟩ := h
  have hlt : j < L.length := (List.getElem?_eq_some_iff.1 hj).1
  obtain ⟨b, off, u, hA, _, hu, hc⟩ := h1.at1 hlt
  obtain ⟨l', A', c, h3, h4, h5⟩ := h2.2 j u hu
  rw [hj] at h3
  cases h3
  exact ⟨b, off, A', c, hA, by rw [← h4]; exact hc, h5⟩
/-- Blocks that choices are made of stay while a row of another type grows. -/
theorem Stay.grown_own {a b : World} {base n size : Nat} {e : TypeId} {v : Value} {xs : List Value} (hg : a.grownBy b v.ownBlock) (ho : a.ownsRow base e size v n xs) (he : ¬ ctxTy e) : Stay a b := by
  refine ⟨hg.size, fun g cs t ht hgt => ?_⟩
  rw [hg.block g (Array.getElem?_eq_some_iff.1 hgt).1 (fun hv => ?_)]
  · exact hgt
  · rcases ho.2 with ⟨rfl, _⟩ | ⟨g', cap, cur, rfl, _, hh, _⟩
    · simp [Value.ownBlock] at hv
    · simp only [Value.ownBlock, Option.some.injEq] at hv
      subst hv
      rw [hgt] at hh
      injection hh with hh
      injection hh with _ ht'
      rw [ht'] at ht
      exact he ht
/-! ### stacks, top by top -/
def topStk (x : Int × Nat × Tops) : List (List Int) := (stkOf x.2.2).map (x.1 :: ·)
/-- the stacks of the first k tops -/
def stkPre (f : Tops) (k : Nat) : List (List Int) := ((f.list.take k).map topStk).flatten
theorem stk_flat : ∀ f : Tops, f.stk = (f.list.map topStk).flatten
  | .nil => rfl
  | .cons s k a r => by rw [stk_cons, stk_flat r]; rfl
theorem list_at : ∀ (f : Tops) (j : Nat), f.list[j]? = f.at? j
  | .nil, _ => rfl
  | .cons .., 0 => rfl
  | .cons _ _ _ r, j + 1 => by simp only [Tops.list, List.getElem?_cons_succ, Tops.at?]; exact list_at r j
theorem stkPre_succ {f : Tops} {k : Nat} {x : Int × Nat × Tops} (h : f.at? k = some x) : stkPre f (k + 1) = stkPre f k ++ topStk x := by
  rw [← list_at] at h
  unfold stkPre
  rw [take_snoc' _ _ _ h, List.map_append, List.flatten_append]
  simp
theorem stkPre_all (f : Tops) : stkPre f f.len = f.stk := by
  unfold stkPre
  rw [← Tops.list_length f, List.take_length, stk_flat]
theorem stkPre_le (f : Tops) (k : Nat) : (stkPre f k).length ≤ f.stk.length := by
  unfold stkPre
  rw [stk_flat]
  conv => rhs; rw [← List.take_append_drop k f.list]
  rw [List.map_append, List.flatten_append, List.length_append]
  omega
theorem topStk_len (x : Int × Nat × Tops) : (topStk x).length = (stkOf x.2.2).length := by simp [topStk]
theorem mem_stk_at : ∀ {f : Tops} {t : List Int}, t ∈ f.stk → ∃ j s k a t', f.at? j = some (s, k, a) ∧ t = s :: t' ∧ t' ∈ stkOf a
  | .nil, t, h => by cases h
  | .cons s k a r, t, h => by
    rw [stk_cons] at h
    rcases List.mem_append.1 h with h | h
    · obtain ⟨t', h1, rfl⟩ := List.mem_map.1 h
      exact ⟨0, s, k, a, t', rfl, rfl, h1⟩
    · obtain ⟨j, s', k', a', t', h1, h2, h3⟩ := mem_stk_at (f := r) h
      exact ⟨j + 1, s', k', a', t', h1, h2, h3⟩
theorem stk_depth {ns : List Nd} (ho : TabOk ns) : ∀ (n a : Nat), a < n → a < ns.length → ∀ t ∈ stkOf (tr ns a).2, t.length ≤ a
  | 0, _, h, _, _, _ => absurd h (by omega)
  | n + 1, a, han, ha, t, ht => by
    have hna := List.getElem?_eq_getElem ha
    generalize ns[a] = nd at *
    obtain ⟨hpl, hsl, hpar⟩ := ho.2 a nd hna
    rw [tr_eq ho hna] at ht
    simp only at ht
    cases hn : (mkTops (built ns) nd.ps nd.ss).isNil
    · rw [stkOf_len _ hn] at ht
      obtain ⟨j, s, k, sub, t', h1, rfl, h2⟩ := mem_stk_at ht
      have hjl : j < nd.ss.length := by
        rw [← mkTops_len (built ns) nd.ps nd.ss hpl, ← Tops.list_length]
        rw [← list_at] at h1
        exact (List.getElem?_eq_some_iff.1 h1).1
      obtain ⟨p, hp, hpa⟩ := hpar j hjl
      rw [mkTops_at hp (List.getElem?_eq_getElem hjl)] at h1
      cases h1
      have := stk_depth ho n p (by omega) (by omega) t' h2
      simp only [List.length_cons]
      omega
    · rw [Tops.isNil_eq hn, stkOf_nil] at ht
      simp at ht
      subst ht
      exact Nat.zero_le _
/-- A list of stacks of the call's own. -/
def OwnStk (w : World) (base : Nat) (v : Value) (L : List (List Int)) : Prop := ∃ us, w.ownsRow base 22 1 v L.length us ∧ Rows2 w us L
theorem OwnStk.ext {w w' : World} {base : Nat} {v : Value} {L : List (List Int)} (h : OwnStk w base v L) (hb : Below w.heap.size w w') : OwnStk w' base v L := by
  obtain ⟨us, h1, h2⟩ := h
  exact ⟨us, ownsRow_ext h1 hb, h2.stay (Stay.of_below hb)⟩
theorem OwnStk.stks {w : World} {base : Nat} {v : Value} {L : List (List Int)} (h : OwnStk w base v L) : ∃ A c, v = .slice A L.length c ∧ Stks w A L := by
  obtain ⟨us, h1, h2⟩ := h
  obtain ⟨A, c, rfl, hr⟩ := own_slice h1
  exact ⟨A, c, rfl, us, hr, h2⟩
theorem OwnStk.nil_ (w : World) (base : Nat) : OwnStk w base (.slice none 0 0) [] := ⟨[], World.ownsRow_nil _ _ _ _, rfl, fun j u hu => by simp at hu⟩
def StkPost (f : Tops) (w : World) (e : Ending) (w' : World) : Prop := ∃ v L, e = .returned (.tuple #[v, .bool (decide ((stkOf f).length ≤ 120))]) ∧ (L = if (stkOf f).length ≤ 120 then stkOf f else []) ∧ OwnStk w' w.heap.size v L ∧ Below w.heap.size w w'
def StkTo (n : Nat) : Prop := ∀ (a : Nat) (ns : List Nd) (A : Option Addr) (c : Nat) (w : World), a < n → TabOk ns → Tbl w w.heap.size A ns → a < ns.length →
  Calls Try.prog 28 #[.slice A ns.length c, .int .i64 a] w (StkPost (tr ns a).2 w)
theorem info22 : (Try.prog.info? 22).map (fun i => (i.zero, i.size, i.bytes)) = some (some (.slice none 0 0), 1, 24) := by kernel_rfl
set_option maxRecDepth 20000 in
set_option maxHeartbeats 4000000 in
theorem stacks_step (n : Nat) (IH : StkTo n) : StkTo (n + 1) := by
  intro a ns A c w han ho ht ha
  have hna := List.getElem?_eq_getElem ha
  obtain ⟨b1, off1, Ap, cp, As, cs, rfl, hb1, cu1, cv1, rp, rs⟩ := ht.at_ hna
  generalize ns[a] = nd at *
  obtain ⟨i0, hi0, hz0, hz1, hz2⟩ := info_parts info22
  obtain ⟨j0, hj0, hy0, hy1, hy2⟩ := info_parts int_info
  have hnl := ho.1
  have HI := Lib.hid IH
  have HO := Lib.hid ho
  have HT := Lib.hid ht
  have HNA := Lib.hid hna
  obtain ⟨hpl, hsl, hpar⟩ := ho.2 a nd hna
  rw [hpl] at cu1 rp
  have HRP := Lib.hid rp
  have HRS := Lib.hid rs
  have HTR := Lib.hid (tr_eq ho hna)
  have HPAR := Lib.hid hpar
  have hlenf : (mkTops (built ns) nd.ps nd.ss).len = nd.ss.length := mkTops_len _ _ _ hpl
  clear IH ho ht hna rp rs hpar hpl
  have HF : Hid ((tr ns a).2 = mkTops (built ns) nd.ps nd.ss) := Lib.hid (by rw [HTR.out])
  rw [HF.out]
  have HAT : Hid (∀ (j p : Nat) (s : Int), nd.ps[j]? = some (p : Int) → nd.ss[j]? = some s → (mkTops (built ns) nd.ps nd.ss).at? j = some (s, tr ns p)) := Lib.hid (fun j p s h1 h2 => mkTops_at h1 h2)
  generalize mkTops (built ns) nd.ps nd.ss = f at *
  by_cases h0 : nd.ss.length = 0
  · have hf : f = .nil := Tops.isNil_eq ((Tops.isNil_len f).2 (by omega))
    subst hf
    have h0' : ((nd.ss.length : Int) == 0) = true := by rw [beq_iff_eq]; omega
    go_enter Try.func28, Try.ntmps28
    go_wp2_with fail
    go_returns
    refine ⟨_, [[]], rfl, rfl, ⟨[.slice (some ⟨w.heap.size + 1, 0, none⟩) 0 0], ?_, rfl, fun j u hu => ?_⟩, ?_⟩
    · have := World.ownsRow_lit (base := w.heap.size) (e := 22) (size := 1) ((w.alloc (Obj.cells #[Value.slice Ap 0 cp, Value.slice As 0 cs] 32)).alloc (Obj.cells #[] 3)) #[.slice (some ⟨w.heap.size + 1, 0, none⟩) 0 0] 1 (by simp; omega) (by simp [maxLen]) rfl
      simpa using this
    · have hj : j = 0 := by
        rcases Nat.eq_zero_or_pos j with h | h
        · exact h
        · rw [List.getElem?_eq_none (by simp; omega)] at hu; cases hu
      subst hj
      simp at hu
      subst hu
      exact ⟨[], _, _, rfl, rfl, rfl, fun h => absurd h (by simp)⟩
    · exact below_alloc' (below_alloc' (below_alloc' (Below.refl _ _) _) _) _
  · have h0' : ((nd.ss.length : Int) == 0) = false := by rw [beq_eq_false_iff_ne]; omega
    have hfn : f.isNil = false := Tops.notNil (by omega)
    have HSO := Lib.hid (stkOf_len f hfn)
    go_enter Try.func28, Try.ntmps28
    go_wp2_with fail
    obtain ⟨W1, hW1⟩ : ∃ W1 : World, W1 = (w.alloc (Obj.cells #[Value.slice Ap nd.ss.length cp, Value.slice As nd.ss.length cs] 32)).alloc (Obj.cells #[] 22) := ⟨_, rfl⟩
    have hb0 : Below w.heap.size w W1 := by rw [hW1]; exact below_alloc' (below_alloc' (Below.refl _ _) _) _
    obtain ⟨gx, hgx⟩ : ∃ gx, gx = w.heap.size := ⟨_, rfl⟩
    have x0 : W1.cell? ⟨gx, 0, none⟩ = some (.slice Ap nd.ss.length cp) := by rw [hW1, hgx]; exact cell_alloc (by simp [World.cell?_alloc_new]) _
    have hown0 : W1.ownsRow (w.heap.size + 1) 22 1 (.slice (some ⟨w.heap.size + 1, 0, none⟩) 0 0) 0 [] := by
      have := World.ownsRow_lit (base := w.heap.size + 1) (e := 22) (size := 1) (w.alloc (Obj.cells #[Value.slice Ap nd.ss.length cp, Value.slice As nd.ss.length cs] 32)) #[] 0 (by simp) (by simp [maxLen]) rfl
      rw [hW1]
      simpa using this
    rw [← hW1]
    rw [← hgx] at hown0 hb0 ⊢
    have HO0 := Lib.hid (show OwnStk W1 (gx + 1) (.slice (some ⟨gx + 1, 0, none⟩) 0 0) (stkPre f 0) from ⟨[], hown0, rfl, fun j u hu => by simp at hu⟩)
    have HB0 := Lib.hid hb0
    have hgl : gx < W1.heap.size := by rw [hW1, hgx]; simp; omega
    have HGX := Lib.hid hgx
    clear hW1 hown0 hb0 hgx
    go_loopw [7, 28] (fun o i wr => ∃ k : Nat, k ≤ nd.ss.length ∧ i = .int .i64 k ∧ (stkPre f k).length ≤ 120 ∧ Hid (OwnStk wr (gx + 1) o (stkPre f k)) ∧ Hid (Below gx w wr) ∧ wr.cell? ⟨gx, 0, none⟩ = some (.slice Ap nd.ss.length cp) ∧ gx < wr.heap.size) (fun _ i _ => nd.ss.length - (intOf i).toNat)
    case atStart => exact ⟨0, Nat.zero_le _, rfl, by simp [stkPre], HO0, HB0, x0, hgl⟩
    case round =>
      clear HO0 HB0 x0 hgl
      obtain ⟨k, hk, rfl, hle, HOW, HBW, x0, hgl⟩ := hrel
      by_cases hlt : k < nd.ss.length
      · obtain ⟨p, hp, hpa⟩ := HPAR.out k hlt
        obtain ⟨s, hs⟩ : ∃ s, nd.ss[k]? = some s := ⟨_, List.getElem?_eq_getElem hlt⟩
        have HSUC := Lib.hid (stkPre_succ (HAT.out k p s hp hs))
        have HPL := Lib.hid (stkPre_le f (k + 1))
        have hbw : Below w.heap.size w wr := by rw [← HGX.out]; exact HBW.out
        obtain ⟨bs, offs, us, rfl, _, hus, hcs⟩ := (HRS.out.ext hbw).at1 hlt
        obtain ⟨bp, offp, up, rfl, _, hup, hcp⟩ := (HRP.out.ext hbw).at1 hlt
        obtain ⟨s', hs', rfl⟩ := ints_at hus
        obtain ⟨p', hp', rfl⟩ := ints_at hup
        rw [hs] at hs'
        rw [hp] at hp'
        cases hs'
        cases hp'
        have hpn : p < ns.length := by omega
        have HC := Lib.hid (HI.out p ns _ c wr (by omega) HO.out (HT.out.ext hbw) hpn)
        have HDEP := Lib.hid (stk_depth HO.out (p + 1) p (by omega) hpn)
        clear hp hs hbw hus hup
        go_wp2_with fail
        refine HC.out.mono ?_
        rintro e w2 ⟨v2, L2, rfl, hL2, hown2, hb2⟩
        generalize hsub : tr ns p = sub at *
        have HB2 := Lib.hid (HBW.out.trans (hb2.mono (by omega)))
        have HOW2 := Lib.hid (HOW.out.ext hb2)
        have x2 := cell_bel x0 hb2
        have hs2 := hb2.size
        by_cases hok : (stkOf sub.2).length ≤ 120
        · have hok' : decide ((stkOf sub.2).length ≤ 120) = true := decide_eq_true hok
          rw [if_pos hok] at hL2
          rw [hok']
          obtain ⟨A2, c2, rfl, hst⟩ := hown2.stks
          have HL2 := Lib.hid hL2
          have HST := Lib.hid hst
          have HOWN2 := Lib.hid hown2
          have hL2' := Lib.hid hL2
          have hne0 : Hid ((Value.slice A2 L2.length c2).ownBlock = none ∨ (Value.slice A2 L2.length c2).ownBlock ≠ u7.ownBlock) := Lib.hid (by
            obtain ⟨us2, h1, _⟩ := hown2
            obtain ⟨us1, h2, _⟩ := HOW.out
            cases hv : (Value.slice A2 L2.length c2).ownBlock with
            | none => exact .inl rfl
            | some g =>
              right
              intro he
              have l1 := (h1.lt g hv).1
              have l2 := (h2.lt g he.symm).2
              omega)
          clear hL2 hst hown2 hb2 HOW HBW x0
          obtain ⟨zr, hzr⟩ : ∃ zr, zr = wr.heap.size := ⟨_, rfl⟩
          rw [← hzr] at HOWN2
          clear hzr
          have hL2l : L2.length ≤ 120 := by rw [HL2.out]; exact hok
          go_wp2_with fail
          go_loopw [7, 47] (fun o i wr => ∃ m : Nat, m ≤ L2.length ∧ i = .int .i64 m ∧ Hid (OwnStk wr (gx + 1) o (stkPre f k ++ (L2.take m).map (s :: ·))) ∧ Hid (Below gx w wr) ∧ Hid (OwnStk wr zr (.slice A2 L2.length c2) L2) ∧
            Hid ((Value.slice A2 L2.length c2).ownBlock = none ∨ (Value.slice A2 L2.length c2).ownBlock ≠ o.ownBlock) ∧ wr.cell? ⟨gx, 0, none⟩ = some (.slice (some ⟨bp, offp, none⟩) nd.ss.length cp) ∧ gx < wr.heap.size ∧ w2.heap.size ≤ wr.heap.size) (fun _ i _ => L2.length - (intOf i).toNat)
          case atStart => exact ⟨0, Nat.zero_le _, rfl, by simpa using HOW2, HB2, HOWN2, hne0, x2, by omega, Nat.le_refl _⟩
          case round =>
            clear HOW2 HB2 HOWN2 hne0 x2 HST
            obtain ⟨m, hm, rfl, HO3, HB3, HL3, HNE, x3, hgl3, hsz3⟩ := hrel
            by_cases hlt2 : m < L2.length
            · obtain ⟨l, hl⟩ : ∃ l, L2[m]? = some l := ⟨_, List.getElem?_eq_getElem hlt2⟩
              obtain ⟨A9, c9, e9, hst9⟩ := HL3.out.stks
              cases e9
              obtain ⟨b9, off9, A', c', rfl, hcell, hrow⟩ := hst9.at_ hl
              have HROW := Lib.hid hrow
              have HTK := Lib.hid (take_snoc' _ _ _ hl)
              have hll : l.length ≤ 1000 := by
                have h1 := HDEP.out l (by rw [hL2'.out] at hl; exact List.mem_of_getElem? hl)
                omega
              obtain ⟨us3, ho3, hr3⟩ := HO3.out
              have HOO := Lib.hid ho3
              have HRR := Lib.hid hr3
              have hlen3 : (stkPre f k ++ (L2.take m).map (s :: ·)).length ≤ 240 := by simp; omega
              clear hrow hl hst9 ho3 hr3
              generalize hP3 : stkPre f k ++ (L2.take m).map (s :: ·) = P3 at *
              have HP3 := Lib.hid hP3
              clear hP3
              go_wp2_with (first
                | (at_builtin
                   (refine wpList_append_bel rfl (.tmp 53) (.tmp 54) _ rfl wr wr.heap.size 3 j0 _ 1 8 Try.underlying22 hj0 hy0 hy1 hy2 rfl (by omega) _ 1 [.int .i64 s] rfl (World.ownsRow_lit wr _ 1 (Nat.le_refl _) (by simp [maxLen]) rfl) _ A' l.length c' (ints l) rfl ((Row.reads HROW.out).ext ((Below.refl _ _).alloc (Nat.le_refl _) _)) (ints_one l) (by omega) (by omega) ((Below.refl _ _).alloc (Nat.le_refl _) _) (by simp) ?_)
                   intro v4 w4 hown4 hb4 _ _
                   obtain ⟨A4, c4, rfl, hr4⟩ := own_slice hown4)
                | (at_builtin
                   (refine wpList_append_bel rfl (.tmp 51) (.tmp 56) _ rfl (w4.alloc (Obj.cells #[.slice A4 (1 + l.length) c4] 22)) (gx + 1) 22 i0 _ 1 24 Try.underlying42 hi0 hz0 hz1 hz2 rfl (by omega) _ P3.length us3 rfl ((ownsRow_ext HOO.out hb4).alloc _) _ _ 1 1 _ rfl (reads_new (by simp) rfl) (by intro u hu; simp at hu; subst hu; rfl) (by omega) (by omega) (Below.refl _ _) (by have := hb4.size; simp; omega) ?_)
                   intro v5 w5 hown5 hb5 hg5 hob5))
              have hs4 := hb4.size
              have HP4 : Hid (stkPre f k ++ (L2.take (m + 1)).map (s :: ·) = P3 ++ [s :: l]) := Lib.hid (by rw [HTK.out, List.map_append, ← List.append_assoc, HP3.out]; rfl)
              have HO4 : (w4.alloc (Obj.cells #[.slice A4 (1 + l.length) c4] 22)).ownsRow (gx + 1) 22 1 u7 P3.length us3 := (ownsRow_ext HOO.out hb4).alloc _
              have hst4 : Stay wr (w4.alloc (Obj.cells #[.slice A4 (1 + l.length) c4] 22)) := (Stay.of_below hb4).alloc _
              have hst5 : Stay (w4.alloc (Obj.cells #[.slice A4 (1 + l.length) c4] 22)) w5 := Stay.grown_own hg5 HO4 (by unfold ctxTy; decide)
              have HNEW : Hid (OwnStk w5 (gx + 1) v5 (P3 ++ [s :: l])) := Lib.hid (by
                refine ⟨us3 ++ [.slice A4 (1 + l.length) c4], by rw [List.length_append]; exact hown5, ?_⟩
                have hr := Rows2.snoc (HRR.out.stay (hst4.trans hst5)) (l := s :: l) (A := A4) (c := c4) (by
                  have h1 : Row w4 NoX 3 A4 (1 + l.length) (ints (s :: l)) := Row.of_own hown4 (fun _ _ h => h)
                  rw [List.length_cons, Nat.add_comm]
                  exact h1.stay (((Stay.refl w4).alloc _).trans hst5) (.inr (.inr rfl)))
                rw [List.length_cons, Nat.add_comm] at hr
                exact hr)
              have HB5 : Hid (Below gx w w5) := Lib.hid (((HB3.out.trans (hb4.mono (by omega))).alloc (by omega) _).trans (hb5.mono (by omega)))
              have HL5 : Hid (OwnStk w5 zr (.slice (some ⟨b9, off9, none⟩) L2.length c2) L2) := Lib.hid (by
                obtain ⟨us2, h1, h2⟩ := HL3.out
                exact ⟨us2, World.ownsRow.kept ((ownsRow_ext h1 hb4).alloc _) hg5 HNE.out, h2.stay (hst4.trans hst5)⟩)
              have HNE5 : Hid ((Value.slice (some ⟨b9, off9, none⟩) L2.length c2).ownBlock = none ∨ (Value.slice (some ⟨b9, off9, none⟩) L2.length c2).ownBlock ≠ v5.ownBlock) := Lib.hid (by
                rcases hob5 with h | h
                · rw [h]; exact HNE.out
                · rw [h]
                  right
                  intro he
                  obtain ⟨us2, h1, _⟩ := HL3.out
                  have := (h1.lt _ he).2
                  simp at this
                  omega)
              have x5 : w5.cell? ⟨gx, 0, none⟩ = some (.slice (some ⟨bp, offp, none⟩) nd.ss.length cp) := (hb5.cell (by simp)).trans (cell_alloc (cell_bel x3 hb4) _)
              have hs5 := hb5.size
              simp at hs5
              clear HO4 hst4 hst5 hown5 hown4 hb4 hb5 hg5 hob5 hr4
              rw [← HP4.out] at HNEW
              exact ⟨⟨m + 1, by omega, by go_num, HNEW, HB5, HL5, HNE5, x5, by omega, by omega⟩, by simp [intOf]; omega⟩
            · have hmn : m = L2.length := by omega
              subst hmn
              rw [List.take_length] at HO3
              have HP4 : Hid (stkPre f k ++ L2.map (s :: ·) = stkPre f (k + 1)) := Lib.hid (by rw [HSUC.out, hL2'.out]; rfl)
              rw [HP4.out] at HO3
              clear HL3 HNE
              by_cases hle2 : (stkPre f (k + 1)).length ≤ 120
              · obtain ⟨us3, ho3, hr3⟩ := HO3.out
                obtain ⟨A9, c9, rfl, _⟩ := own_slice ho3
                have hle2' : ¬ (120 : Int) < ((stkPre f (k + 1)).length : Int) := by omega
                clear ho3 hr3
                go_wp2_with fail
                go_roundw
                case rel => exact ⟨k + 1, by omega, by go_num, hle2, HO3, HB3, x3, by omega⟩
                case measure => simp [intOf]; omega
              · obtain ⟨us3, ho3, hr3⟩ := HO3.out
                obtain ⟨A9, c9, rfl, _⟩ := own_slice ho3
                have hle2' : (120 : Int) < ((stkPre f (k + 1)).length : Int) := by omega
                have hno : ¬ (stkOf f).length ≤ 120 := by
                  have h1 := HPL.out
                  rw [HSO.out]
                  omega
                clear ho3 hr3
                go_wp2_with fail
                go_returns
                refine ⟨.slice none 0 0, [], by rw [decide_eq_false hno]; rfl, by rw [if_neg hno], OwnStk.nil_ _ _, by rw [← HGX.out]; exact HB3.out⟩
        · have hok' : decide ((stkOf sub.2).length ≤ 120) = false := decide_eq_false hok
          rw [hok']
          have hno : ¬ (stkOf f).length ≤ 120 := by
            have h1 := HPL.out
            rw [HSUC.out, List.length_append, topStk_len] at h1
            rw [HSO.out]
            simp only at h1
            omega
          clear hL2 hown2
          go_wp2_with fail
          go_returns
          refine ⟨.slice none 0 0, [], by rw [decide_eq_false hno]; rfl, by rw [if_neg hno], OwnStk.nil_ _ _, by rw [← HGX.out]; exact HB2.out⟩
      · have hkn : k = f.len := by omega
        have hyes : (stkOf f).length ≤ 120 := by rw [HSO.out, ← stkPre_all, ← hkn]; exact hle
        go_wp2_with fail
        go_returns
        obtain ⟨us, h1, h2⟩ := HOW.out
        refine ⟨_, stkPre f k, by rw [decide_eq_true hyes]; rfl, by rw [if_pos hyes, HSO.out, ← stkPre_all, hkn], ⟨us, ⟨h1.1, ?_⟩, h2⟩, by rw [← HGX.out]; exact HBW.out⟩
        rcases h1.2 with h | ⟨g, cap, cur, hv, hbg, hr⟩
        · exact .inl h
        · exact .inr ⟨g, cap, cur, hv, by have := HGX.out; omega, hr⟩
theorem stacks_all (n : Nat) : StkTo n := by
  induction n with
  | zero => intro a ns A c w h; exact absurd h (by omega)
  | succ n ih => exact stacks_step n ih
/-- STACKS -/
theorem stacks_any (a : Nat) (ns : List Nd) (A : Option Addr) (c : Nat) (w : World) (ho : TabOk ns) (ht : Tbl w w.heap.size A ns) (ha : a < ns.length) :
    Calls Try.prog 28 #[.slice A ns.length c, .int .i64 a] w (StkPost (tr ns a).2 w) := stacks_all (a + 1) a ns A c w (Nat.lt_succ_self a) ho ht ha
end Go.Proofs.Ytcbabfndfikejaa
/- The walks that compare lists of stacks: begins, same, has, within, Same, Apart. Condition: the lists read, and are small. -/
namespace Go.Proofs.Ytcbabfndfikejaa
open Go.RowKit
set_option linter.unusedSimpArgs false
theorem Reads.dr {w w' : World} {size n : Nat} {A : Option Addr} {xs : List Value} (h : Reads w w.heap.size size A n xs) (hd : Dr w w') : Reads w' w'.heap.size size A n xs := by obtain ⟨k, rfl⟩ := hd; exact h
theorem Stks.dr {w w' : World} {A : Option Addr} {L : List (List Int)} (h : Stks w A L) (hd : Dr w w') : Stks w' A L := by obtain ⟨k, rfl⟩ := hd; exact h
theorem prefix_step {s p : List Int} {k : Nat} {x : Int} (h : p.take k = s.take k) (hp : p[k]? = some x) (hs : s[k]? = some x) : p.take (k + 1) = s.take (k + 1) := by
  rw [take_snoc' _ _ _ hp, take_snoc' _ _ _ hs, h]
theorem prefix_no {s p : List Int} {k : Nat} {x y : Int} (hp : p[k]? = some x) (hs : s[k]? = some y) (hne : y ≠ x) : p.isPrefixOf s = false := by
  rw [Bool.eq_false_iff]
  intro h
  rw [List.isPrefixOf_iff_prefix] at h
  obtain ⟨t, rfl⟩ := h
  rw [List.getElem?_append_left (List.getElem?_eq_some_iff.1 hp).1, hp] at hs
  cases hs
  exact hne rfl
theorem prefix_yes {s p : List Int} (h : p.take p.length = s.take p.length) : p.isPrefixOf s = true := by
  rw [List.isPrefixOf_iff_prefix]
  rw [List.take_length] at h
  exact ⟨s.drop p.length, by conv => lhs; lhs; rw [h]
                             exact List.take_append_drop ..⟩
set_option maxHeartbeats 1000000 in
theorem begins_any (A A' : Option Addr) (c c' : Nat) (s p : List Int) (w : World) (h : Reads w w.heap.size 1 A s.length (ints s)) (h' : Reads w w.heap.size 1 A' p.length (ints p)) (hm : s.length ≤ 100000) :
    Calls Try.prog 43 #[.slice A s.length c, .slice A' p.length c'] w (EqPost (p.isPrefixOf s) w) := by
  have H := Lib.hid h
  have H' := Lib.hid h'
  clear h h'
  by_cases hl : p.length ≤ s.length
  · have hl' : ¬ (s.length : Int) < (p.length : Int) := by omega
    go_enter Try.func43, Try.ntmps43
    go_wp2_with fail
    go_loopw [13] (fun i wr => ∃ k n : Nat, k ≤ p.length ∧ i = .int .i64 k ∧ Hid (p.take k = s.take k) ∧ wr = w.drewN n) (fun i _ => p.length - (intOf i).toNat)
    case atStart => exact ⟨0, 0, Nat.zero_le _, rfl, Lib.hid rfl, rfl⟩
    case round =>
      obtain ⟨k, n, hk, rfl, HK, rfl⟩ := hrel
      by_cases hlt : k < p.length
      · obtain ⟨b, off, u, rfl, _, hu, hc⟩ := H.out.at1 (k := k) (by omega)
        obtain ⟨x, hx, rfl⟩ := ints_at hu
        obtain ⟨b2, off2, u2, rfl, _, hu2, hc2⟩ := H'.out.at1 hlt
        obtain ⟨y, hy, rfl⟩ := ints_at hu2
        have hk1 : (k : Int) < (s.length : Int) := by omega
        have hk2 : (k : Int) < (p.length : Int) := by omega
        by_cases hxy : x = y
        · subst hxy
          have HK2 := Lib.hid (prefix_step HK.out hy hx)
          clear hu hx hu2 hy
          go_wp2_with fail
          go_quiet (fail)
          go_wp2_with fail
          go_roundw
          case rel => exact ⟨k + 1, _, by omega, by go_num, HK2, rfl⟩
          case measure => simp [intOf]; omega
        · have hxy1 : (x != y) = true := by rw [bne_iff_ne]; exact hxy
          have HN := Lib.hid (prefix_no hy hx hxy)
          clear hu hx hu2 hy
          go_wp2_with fail
          go_quiet (fail)
          go_wp2_with fail
          go_ret
          rw [HN.out]
          exact ⟨rfl, _, World.drewN_drewN ..⟩
      · have hkn : k = p.length := by omega
        subst hkn
        go_wp2_with fail
        go_ret
        rw [prefix_yes HK.out]
        exact ⟨rfl, n, rfl⟩
  · have hl' : (s.length : Int) < (p.length : Int) := by omega
    have HN := Lib.hid (show p.isPrefixOf s = false by
      rw [Bool.eq_false_iff]
      intro h
      rw [List.isPrefixOf_iff_prefix] at h
      exact hl h.length_le)
    go_enter Try.func43, Try.ntmps43
    go_wp2_with fail
    go_ret
    rw [HN.out]
    exact ⟨rfl, Dr.refl _⟩
theorem same_any (A A' : Option Addr) (c c' : Nat) (s p : List Int) (w : World) (h : Reads w w.heap.size 1 A s.length (ints s)) (h' : Reads w w.heap.size 1 A' p.length (ints p)) (hm : s.length ≤ 100000) :
    Calls Try.prog 89 #[.slice A s.length c, .slice A' p.length c'] w (EqPost (decide (s = p)) w) := by
  have HB := Lib.hid (begins_any A A' c c' s p w h h' hm)
  clear h h'
  by_cases hl : s.length = p.length
  · have HE := Lib.hid (show p.isPrefixOf s = decide (s = p) by
      rw [Bool.eq_iff_iff, List.isPrefixOf_iff_prefix, decide_eq_true_iff]
      exact ⟨fun h => (h.eq_of_length hl.symm).symm, fun h => by rw [h]; exact List.prefix_refl _⟩)
    have hl' : ((s.length : Int) == (p.length : Int)) = true := by rw [beq_iff_eq]; omega
    clear hl
    go_enter Try.func89, Try.ntmps89
    go_wp2_with fail
    refine HB.out.mono ?_
    rintro e w1 ⟨rfl, hd⟩
    rw [HE.out]
    have HD := Lib.hid hd
    clear hd
    go_wp2_with fail
    go_ret
    exact ⟨rfl, HD.out⟩
  · have hl' : ((s.length : Int) == (p.length : Int)) = false := by rw [beq_eq_false_iff_ne]; omega
    have HN := Lib.hid (show decide (s = p) = false from decide_eq_false (fun h => hl (by rw [h])))
    clear hl
    go_enter Try.func89, Try.ntmps89
    go_wp2_with fail
    go_ret
    rw [HN.out]
    exact ⟨rfl, Dr.refl _⟩
/-- has, as a test -/
def hasB (wild : Bool) (L : List (List Int)) (s : List Int) : Bool := L.any fun p => decide (p = s) || (wild && p.isPrefixOf s)
theorem hasB_iff {wild : Bool} {L : List (List Int)} {s : List Int} : hasB wild L s = true ↔ hasW wild L s := by
  unfold hasB hasW
  simp only [List.any_eq_true, Bool.or_eq_true, decide_eq_true_iff, Bool.and_eq_true, List.isPrefixOf_iff_prefix]
/-- Lists of stacks that are not too great. -/
def SmL (L : List (List Int)) : Prop := L.length ≤ 100000 ∧ ∀ l ∈ L, l.length ≤ 100000
set_option maxHeartbeats 1000000 in
theorem has_any (wild : Bool) (A A' : Option Addr) (c c' : Nat) (L : List (List Int)) (s : List Int) (w : World) (h : Stks w A L) (hm : SmL L) (h' : Reads w w.heap.size 1 A' s.length (ints s)) (hs : s.length ≤ 100000) :
    Calls Try.prog 62 #[.slice A L.length c, .slice A' s.length c', .bool wild] w (EqPost (hasB wild L s) w) := by
  have H := Lib.hid h
  have H' := Lib.hid h'
  have HM := Lib.hid hm
  have hml := hm.1
  clear h h' hm
  go_enter Try.func62, Try.ntmps62
  go_wp2_with fail
  go_loopw [11] (fun i wr => ∃ k : Nat, k ≤ L.length ∧ i = .int .i64 k ∧ Hid (hasB wild (L.take k) s = false) ∧ Hid (Dr w wr)) (fun i _ => L.length - (intOf i).toNat)
  case atStart => exact ⟨0, Nat.zero_le _, rfl, Lib.hid rfl, Lib.hid (Dr.refl _)⟩
  case round =>
    obtain ⟨k, hk, rfl, HK, HD⟩ := hrel
    by_cases hlt : k < L.length
    · obtain ⟨l, hl⟩ : ∃ l, L[k]? = some l := ⟨_, List.getElem?_eq_getElem hlt⟩
      obtain ⟨b, off, A2, c2, rfl, hc, hrow⟩ := (H.out.dr HD.out).at_ hl
      have HROW := Lib.hid hrow.reads
      have hll := HM.out.2 l (List.mem_of_getElem? hl)
      have HT := Lib.hid (show hasB wild (L.take (k + 1)) s = (hasB wild (L.take k) s || (decide (l = s) || (wild && l.isPrefixOf s))) by
        unfold hasB; rw [take_snoc' _ _ _ hl]; simp)
      have HMEM := Lib.hid (List.mem_of_getElem? hl)
      clear hrow hl
      go_wp2_with fail
      refine (same_any A2 A' c2 c' l s wr HROW.out (H'.out.dr HD.out) hll).mono ?_
      rintro e w2 ⟨rfl, hd2⟩
      have HD2 := Lib.hid (HD.out.trans hd2)
      have HR2 := Lib.hid (HROW.out.dr hd2)
      clear hd2
      by_cases he : l = s
      · have he' : decide (l = s) = true := decide_eq_true he
        have HY := Lib.hid (show hasB wild L s = true by
          unfold hasB
          rw [List.any_eq_true]
          exact ⟨l, HMEM.out, by rw [he']; rfl⟩)
        clear he
        go_wp2_with fail
        go_ret
        rw [HY.out]
        exact ⟨rfl, HD2.out⟩
      · have he' : decide (l = s) = false := decide_eq_false he
        rw [he', Bool.false_or] at HT
        rw [he']
        clear he
        cases wild
        · go_wp2_with fail
          go_roundw
          case rel => exact ⟨k + 1, by omega, by go_num, Lib.hid (by rw [HT.out, HK.out]; rfl), HD2⟩
          case measure => simp [intOf]; omega
        · go_wp2_with fail
          refine (begins_any A' A2 c' c2 s l w2 (H'.out.dr HD2.out) HR2.out hs).mono ?_
          rintro e w3 ⟨rfl, hd3⟩
          have HD3 := Lib.hid (HD2.out.trans hd3)
          clear hd3
          generalize hQ : l.isPrefixOf s = q at *
          cases q
          · go_wp2_with fail
            go_roundw
            case rel => exact ⟨k + 1, by omega, by go_num, Lib.hid (by rw [HT.out, HK.out]; rfl), HD3⟩
            case measure => simp [intOf]; omega
          · have HY := Lib.hid (show hasB true L s = true by
              unfold hasB
              rw [List.any_eq_true]
              exact ⟨l, HMEM.out, by rw [hQ]; simp⟩)
            clear hQ
            go_wp2_with fail
            go_ret
            rw [HY.out]
            exact ⟨rfl, HD3.out⟩
    · have hkn : k = L.length := by omega
      subst hkn
      rw [List.take_length] at HK
      go_wp2_with fail
      go_ret
      rw [HK.out]
      exact ⟨rfl, HD.out⟩
def withinB (wild : Bool) (a b : List (List Int)) : Bool := a.all fun s => hasB wild b s
set_option maxHeartbeats 1000000 in
theorem within_any (wild : Bool) (A A' : Option Addr) (c c' : Nat) (L M : List (List Int)) (w : World) (h : Stks w A L) (hm : SmL L) (h' : Stks w A' M) (hm' : SmL M) :
    Calls Try.prog 45 #[.slice A L.length c, .slice A' M.length c', .bool wild] w (EqPost (withinB wild L M) w) := by
  have H := Lib.hid h
  have H' := Lib.hid h'
  have HM := Lib.hid hm
  have HM' := Lib.hid hm'
  have hml := hm.1
  clear h h' hm hm'
  go_enter Try.func45, Try.ntmps45
  go_wp2_with fail
  go_loopw [11] (fun i wr => ∃ k : Nat, k ≤ L.length ∧ i = .int .i64 k ∧ Hid (withinB wild (L.take k) M = true) ∧ Hid (Dr w wr)) (fun i _ => L.length - (intOf i).toNat)
  case atStart => exact ⟨0, Nat.zero_le _, rfl, Lib.hid rfl, Lib.hid (Dr.refl _)⟩
  case round =>
    obtain ⟨k, hk, rfl, HK, HD⟩ := hrel
    by_cases hlt : k < L.length
    · obtain ⟨l, hl⟩ : ∃ l, L[k]? = some l := ⟨_, List.getElem?_eq_getElem hlt⟩
      obtain ⟨b, off, A2, c2, rfl, hc, hrow⟩ := (H.out.dr HD.out).at_ hl
      have HROW := Lib.hid hrow.reads
      have hll := HM.out.2 l (List.mem_of_getElem? hl)
      have HT := Lib.hid (show withinB wild (L.take (k + 1)) M = (withinB wild (L.take k) M && hasB wild M l) by
        unfold withinB; rw [take_snoc' _ _ _ hl]; simp)
      have HMEM := Lib.hid (List.mem_of_getElem? hl)
      clear hrow hl
      go_wp2_with fail
      refine (has_any wild A' A2 c' c2 M l wr (H'.out.dr HD.out) HM'.out HROW.out hll).mono ?_
      rintro e w2 ⟨rfl, hd2⟩
      have HD2 := Lib.hid (HD.out.trans hd2)
      clear hd2
      generalize hQ : hasB wild M l = q at *
      cases q
      · have HY := Lib.hid (show withinB wild L M = false by
          rw [Bool.eq_false_iff]
          intro h
          have := List.all_eq_true.1 h l HMEM.out
          rw [hQ] at this; cases this)
        clear hQ
        go_wp2_with fail
        go_ret
        rw [HY.out]
        exact ⟨rfl, HD2.out⟩
      · clear hQ
        go_wp2_with fail
        go_roundw
        case rel => exact ⟨k + 1, by omega, by go_num, Lib.hid (by rw [HT.out, HK.out]; rfl), HD2⟩
        case measure => simp [intOf]; omega
    · have hkn : k = L.length := by omega
      subst hkn
      rw [List.take_length] at HK
      go_wp2_with fail
      go_ret
      rw [HK.out]
      exact ⟨rfl, HD.out⟩
def sameB (wild : Bool) (a b : List (List Int)) : Bool := withinB wild a b && withinB wild b a
theorem Same_any (wild : Bool) (A A' : Option Addr) (c c' : Nat) (L M : List (List Int)) (w : World) (h : Stks w A L) (hm : SmL L) (h' : Stks w A' M) (hm' : SmL M) :
    Calls Try.prog 32 #[.slice A L.length c, .slice A' M.length c', .bool wild] w (EqPost (sameB wild L M) w) := by
  have H := Lib.hid h
  have H' := Lib.hid h'
  have HM := Lib.hid hm
  have HM' := Lib.hid hm'
  clear h h' hm hm'
  have HS := Lib.hid (show sameB wild L M = (withinB wild L M && withinB wild M L) from rfl)
  rw [HS.out]
  clear HS
  go_enter Try.func32, Try.ntmps32
  go_wp2_with fail
  refine (within_any wild A A' c c' L M w H.out HM.out H'.out HM'.out).mono ?_
  rintro e w1 ⟨rfl, hd⟩
  have HD := Lib.hid hd
  clear hd
  generalize withinB wild L M = q at *
  cases q
  · go_wp2_with fail
    go_ret
    exact ⟨by simp, HD.out⟩
  · go_wp2_with fail
    refine (within_any wild A' A c' c M L w1 (H'.out.dr HD.out) HM'.out (H.out.dr HD.out) HM.out).mono ?_
    rintro e w2 ⟨rfl, hd2⟩
    have HD2 := Lib.hid (HD.out.trans hd2)
    clear hd2
    go_wp2_with fail
    go_ret
    exact ⟨by simp, HD2.out⟩
theorem sameB_of {wild : Bool} {L M : List (List Int)} (h : ∀ st, hasW wild L st ↔ hasW wild M st) : sameB wild L M = true := by
  unfold sameB withinB
  rw [Bool.and_eq_true, List.all_eq_true, List.all_eq_true]
  exact ⟨fun s hs => hasB_iff.2 ((h s).1 (hasW_self hs)), fun s hs => hasB_iff.2 ((h s).2 (hasW_self hs))⟩
end Go.Proofs.Ytcbabfndfikejaa
/- The walk of spec.Apart. Condition: the list reads, and is small. -/
namespace Go.Proofs.Ytcbabfndfikejaa
open Go.RowKit
set_option linter.unusedSimpArgs false
def apart1 (a b : List Int) : Bool := !(decide (a.length < b.length) && a.isPrefixOf b)
def apartB (L : List (List Int)) : Bool := L.all fun a => L.all fun b => apart1 a b
theorem apartB_iff {L : List (List Int)} : apartB L = true ↔ ApartL L := by
  unfold apartB ApartL apart1
  simp only [List.all_eq_true, Bool.not_eq_true', Bool.and_eq_false_iff, decide_eq_false_iff_not]
  constructor
  · intro h a ha b hb hl hp
    rcases h a ha b hb with h | h
    · exact h hl
    · rw [Bool.eq_false_iff] at h
      exact h (List.isPrefixOf_iff_prefix.2 hp)
  · intro h a ha b hb
    by_cases hl : a.length < b.length
    · right
      rw [Bool.eq_false_iff]
      intro hp
      exact h a ha b hb hl (List.isPrefixOf_iff_prefix.1 hp)
    · exact .inl hl
theorem all_take {α : Type} {L : List α} {k : Nat} {l : α} {f : α → Bool} (hl : L[k]? = some l) : (L.take (k + 1)).all f = ((L.take k).all f && f l) := by
  rw [take_snoc' _ _ _ hl]; simp
set_option maxHeartbeats 2000000 in
theorem Apart_any (A : Option Addr) (c : Nat) (L : List (List Int)) (w : World) (h : Stks w A L) (hm : SmL L) :
    Calls Try.prog 30 #[.slice A L.length c] w (EqPost (apartB L) w) := by
  have H := Lib.hid h
  have HM := Lib.hid hm
  have hml := hm.1
  clear h hm
  go_enter Try.func30, Try.ntmps30
  go_wp2_with fail
  go_loopw [9] (fun i wr => ∃ k : Nat, k ≤ L.length ∧ i = .int .i64 k ∧ Hid ((L.take k).all (fun a => L.all fun b => apart1 a b) = true) ∧ Hid (Dr w wr)) (fun i _ => L.length - (intOf i).toNat)
  case atStart => exact ⟨0, Nat.zero_le _, rfl, Lib.hid rfl, Lib.hid (Dr.refl _)⟩
  case round =>
    obtain ⟨k, hk, rfl, HK, HD⟩ := hrel
    by_cases hlt : k < L.length
    · obtain ⟨a, ha⟩ : ∃ l, L[k]? = some l := ⟨_, List.getElem?_eq_getElem hlt⟩
      obtain ⟨b, off, A2, c2, rfl, hc, hrow⟩ := (H.out.dr HD.out).at_ ha
      have HROW := Lib.hid hrow.reads
      have hll := HM.out.2 a (List.mem_of_getElem? ha)
      have HT := Lib.hid (all_take (f := fun a => L.all fun b => apart1 a b) ha)
      have HMEM := Lib.hid (List.mem_of_getElem? ha)
      obtain ⟨wo, hwo⟩ : ∃ wo, wo = wr := ⟨_, rfl⟩
      have HWO := Lib.hid hwo
      rw [← hwo] at HROW
      have HD0 := Lib.hid (show Dr wo wr by rw [hwo]; exact Dr.refl _)
      clear hrow ha hwo
      go_wp2_with fail
      go_loopw [15] (fun i wr => ∃ m : Nat, m ≤ L.length ∧ i = .int .i64 m ∧ Hid ((L.take m).all (apart1 a) = true) ∧ Hid (Dr w wr) ∧ Hid (Dr wo wr)) (fun i _ => L.length - (intOf i).toNat)
      case atStart => exact ⟨0, Nat.zero_le _, rfl, Lib.hid rfl, HD, HD0⟩
      case round =>
        clear HD HD0 HWO
        obtain ⟨m, hm, rfl, HN, HD, HD0⟩ := hrel
        by_cases hlt2 : m < L.length
        · obtain ⟨l, hl⟩ : ∃ l, L[m]? = some l := ⟨_, List.getElem?_eq_getElem hlt2⟩
          obtain ⟨b', off', A3, c3, e3, hc3, hrow3⟩ := (H.out.dr HD.out).at_ hl
          cases e3
          have HROW3 := Lib.hid hrow3.reads
          have hll3 := HM.out.2 l (List.mem_of_getElem? hl)
          have HT2 := Lib.hid (all_take (f := apart1 a) hl)
          have HMEM2 := Lib.hid (List.mem_of_getElem? hl)
          clear hrow3 hl
          by_cases hlen : a.length < l.length
          · have hlen' : (a.length : Int) < (l.length : Int) := by omega
            have HAP := Lib.hid (show apart1 a l = !a.isPrefixOf l by unfold apart1; rw [decide_eq_true hlen]; rfl)
            go_wp2_with fail
            refine (begins_any A3 A2 c3 c2 l a wr HROW3.out (HROW.out.dr HD0.out) hll3).mono ?_
            rintro e w3 ⟨rfl, hd3⟩
            have HD3 := Lib.hid (HD.out.trans hd3)
            have HD03 := Lib.hid (HD0.out.trans hd3)
            clear hd3
            generalize a.isPrefixOf l = q at *
            cases q
            · go_wp2_with fail
              go_roundw
              case rel => exact ⟨m + 1, by omega, by go_num, Lib.hid (by rw [HT2.out, HN.out, HAP.out]; rfl), HD3, HD03⟩
              case measure => simp [intOf]; omega
            · have HY := Lib.hid (show apartB L = false by
                rw [Bool.eq_false_iff]
                intro h
                have h1 := List.all_eq_true.1 (List.all_eq_true.1 h a HMEM.out) l HMEM2.out
                rw [HAP.out] at h1; cases h1)
              go_wp2_with fail
              go_ret
              rw [HY.out]
              exact ⟨rfl, HD3.out⟩
          · have hlen' : ¬ (a.length : Int) < (l.length : Int) := by omega
            have HAP := Lib.hid (show apart1 a l = true by unfold apart1; rw [decide_eq_false hlen]; rfl)
            go_wp2_with fail
            go_roundw
            case rel => exact ⟨m + 1, by omega, by go_num, Lib.hid (by rw [HT2.out, HN.out, HAP.out]; rfl), HD, HD0⟩
            case measure => simp [intOf]; omega
        · have hmn : m = L.length := by omega
          subst hmn
          rw [List.take_length] at HN
          go_wp2_with fail
          go_roundw
          case rel => exact ⟨k + 1, by omega, by go_num, Lib.hid (by rw [HT.out, HK.out, HN.out]; rfl), HD⟩
          case measure => simp [intOf]; omega
    · have hkn : k = L.length := by omega
      subst hkn
      rw [List.take_length] at HK
      have HY := Lib.hid (show apartB L = true from HK.out)
      go_wp2_with fail
      go_ret
      rw [HY.out]
      exact ⟨rfl, HD.out⟩
end Go.Proofs.Ytcbabfndfikejaa
/- The walk of laws.two: the stacks of two choices together. Condition: the table reads and is not too long. -/
namespace Go.Proofs.Ytcbabfndfikejaa
open Go.RowKit
set_option linter.unusedSimpArgs false
theorem Rows2.one {w : World} {us : List Value} {L : List (List Int)} (h : Rows2 w us L) : ∀ u ∈ us, u.oneCell' = true := fun u hu => by
  obtain ⟨j, hj⟩ := List.mem_iff_getElem?.1 hu
  obtain ⟨l, A, c, _, rfl, _⟩ := h.2 j u hj
  rfl
theorem Rows2.append {w : World} {us vs : List Value} {L M : List (List Int)} (h : Rows2 w us L) (h' : Rows2 w vs M) : Rows2 w (us ++ vs) (L ++ M) := by
  refine ⟨by simp [h.1, h'.1], fun j u hu => ?_⟩
  rcases Nat.lt_or_ge j us.length with hlt | hge
  · rw [List.getElem?_append_left hlt] at hu
    obtain ⟨l, A, c, h1, h2⟩ := h.2 j u hu
    exact ⟨l, A, c, by rw [List.getElem?_append_left (by rw [← h.1]; exact hlt)]; exact h1, h2⟩
  · rw [List.getElem?_append_right hge] at hu
    obtain ⟨l, A, c, h1, h2⟩ := h'.2 _ u hu
    exact ⟨l, A, c, by rw [List.getElem?_append_right (by rw [← h.1]; exact hge), ← h.1]; exact h1, h2⟩
/-- the stacks of two nodes -/
def both (ns : List Nd) (a b : Nat) : List (List Int) := stkOf (tr ns a).2 ++ stkOf (tr ns b).2
end Go.Proofs.Ytcbabfndfikejaa
/- The walks that read what is below a choice; what stays while a call writes to known blocks; choices closed under what is below. Condition: the choices lie in memory. -/
namespace Go.Proofs.Ytcbabfndfikejaa
open Go.RowKit
set_option linter.unusedSimpArgs false
def PtrPost (q : Addr) (w : World) (e : Ending) (w' : World) : Prop := e = .returned (.pointer (some q)) ∧ w = w'
theorem Rep.kids {w : World} {X : Nat → Prop} {p : Addr} {k : Nat} {f : Tops} (h : Rep w X p k f) : ∃ g qs, p = ⟨g, 0, none⟩ ∧ Shape w X g k (hsh k f) f.sts qs ∧ Subs w X f qs := by
  obtain ⟨g, h1, qs, h2, h3⟩ := h
  exact ⟨g, qs, h1, h2, h3⟩
theorem getParent_any (X : Nat → Prop) (g k j : Nat) (h : Int) (ss : List Int) (qs : List Addr) (q : Addr) (w : World) (hS : Shape w X g k h ss qs) (hj : qs[j]? = some q) :
    Calls Try.prog 79 #[.pointer (some ⟨g, 0, none⟩), .int .i64 (j : Int)] w (PtrPost q w) := by
  obtain ⟨_, hlen, H⟩ := hS
  rcases H with ⟨rfl, rfl, hg⟩ | ⟨rfl, s, q', rfl, rfl, hg⟩ | ⟨rfl, A, c, A', c', hg, hr, _⟩
  · simp at hlen; subst hlen; simp at hj
  · have hj0 : j = 0 := by
      rcases Nat.eq_zero_or_pos j with h | h
      · exact h
      · rw [List.getElem?_eq_none (by simp; omega)] at hj; cases hj
    subst hj0
    simp at hj
    subst hj
    have c1 : w.cell? ⟨g, 1, none⟩ = some (.int .i64 1) := cell_of hg 1
    have c2 : w.cell? ⟨g, 2, none⟩ = some (.pointer (some q')) := cell_of hg 2
    clear hg
    go_enter Try.func79, Try.ntmps79
    go_wp2
    go_ret
    exact ⟨rfl, rfl⟩
  · have hlt : j < ss.length := by rw [← hlen]; exact (List.getElem?_eq_some_iff.1 hj).1
    obtain ⟨b, off, u, rfl, _, hu, hc⟩ := hr.reads.at1 hlt
    obtain ⟨q', hq', rfl⟩ := ptrs_at hu
    rw [hj] at hq'
    cases hq'
    have c1 : w.cell? ⟨g, 1, none⟩ = some (.int .i64 2) := cell_of hg 1
    have c4 : w.cell? ⟨g, 4, none⟩ = some (.slice (some ⟨b, off, none⟩) ss.length c) := cell_of hg 4
    clear hg hr hu hlen hj
    go_enter Try.func79, Try.ntmps79
    go_wp2
    go_ret
    exact ⟨rfl, rfl⟩
theorem length_any (X : Nat → Prop) (g k : Nat) (h : Int) (ss : List Int) (qs : List Addr) (w : World) (hS : Shape w X g k h ss qs) (hk : k ≠ 0) :
    Calls Try.prog 68 #[.pointer (some ⟨g, 0, none⟩)] w (IntPost (ss.length : Nat) w) := by
  obtain ⟨_, hlen, H⟩ := hS
  rcases H with ⟨rfl, rfl, hg⟩ | ⟨rfl, s, q', rfl, rfl, hg⟩ | ⟨rfl, A, c, A', c', hg, hr, _⟩
  · exact absurd rfl hk
  · have c1 : w.cell? ⟨g, 1, none⟩ = some (.int .i64 1) := cell_of hg 1
    clear hg
    go_enter Try.func68, Try.ntmps68
    go_wp2
    go_ret
    exact ⟨rfl, rfl⟩
  · have c1 : w.cell? ⟨g, 1, none⟩ = some (.int .i64 2) := cell_of hg 1
    have c5 : w.cell? ⟨g, 5, none⟩ = some (.slice A' ss.length c') := cell_of hg 5
    clear hg hr hlen
    go_enter Try.func68, Try.ntmps68
    go_wp2
    go_ret
    exact ⟨rfl, rfl⟩
theorem getRS_any (X : Nat → Prop) (g k j : Nat) (h s : Int) (ss : List Int) (qs : List Addr) (w : World) (hS : Shape w X g k h ss qs) (hj : ss[j]? = some s) :
    Calls Try.prog 67 #[.pointer (some ⟨g, 0, none⟩), .int .i64 (j : Int)] w (IntPost s w) := by
  obtain ⟨_, hlen, H⟩ := hS
  rcases H with ⟨rfl, rfl, hg⟩ | ⟨rfl, s', q', rfl, rfl, hg⟩ | ⟨rfl, A, c, A', c', hg, _, hr⟩
  · simp at hj
  · have hj0 : j = 0 := by
      rcases Nat.eq_zero_or_pos j with h | h
      · exact h
      · rw [List.getElem?_eq_none (by simp; omega)] at hj; cases hj
    subst hj0
    simp at hj
    subst hj
    have c1 : w.cell? ⟨g, 1, none⟩ = some (.int .i64 1) := cell_of hg 1
    have c3 : w.cell? ⟨g, 3, none⟩ = some (.int .i64 s') := cell_of hg 3
    clear hg
    go_enter Try.func67, Try.ntmps67
    go_wp2
    go_ret
    exact ⟨rfl, rfl⟩
  · have hlt : j < ss.length := (List.getElem?_eq_some_iff.1 hj).1
    obtain ⟨b, off, u, rfl, _, hu, hc⟩ := hr.reads.at1 hlt
    obtain ⟨s', hs', rfl⟩ := ints_at hu
    rw [hj] at hs'
    cases hs'
    have c1 : w.cell? ⟨g, 1, none⟩ = some (.int .i64 2) := cell_of hg 1
    have c5 : w.cell? ⟨g, 5, none⟩ = some (.slice (some ⟨b, off, none⟩) ss.length c') := cell_of hg 5
    clear hg hr hu hlen hj
    go_enter Try.func67, Try.ntmps67
    go_wp2
    go_ret
    exact ⟨rfl, rfl⟩
/-! ### what stays while known blocks are written -/
/-- Blocks of w that X does not name are as they were. -/
structure Chg (X : Nat → Prop) (w w' : World) : Prop where
  os : w'.os = w.os
  tape : w'.tape = w.tape
  output : w'.output = w.output
  size : w.heap.size ≤ w'.heap.size
  block : ∀ j, j < w.heap.size → ¬ X j → w'.heap[j]? = w.heap[j]?
theorem Chg.refl (X : Nat → Prop) (w : World) : Chg X w w := ⟨rfl, rfl, rfl, Nat.le_refl _, fun _ _ _ => rfl⟩
theorem Chg.trans {X Y : Nat → Prop} {a b c : World} (h : Chg X a b) (k : Chg Y b c) (hY : ∀ j, j < a.heap.size → Y j → X j) : Chg X a c :=
  ⟨k.os.trans h.os, k.tape.trans h.tape, k.output.trans h.output, Nat.le_trans h.size k.size, fun j hj hx => (k.block j (Nat.lt_of_lt_of_le hj h.size) (fun hy => hx (hY j hj hy))).trans (h.block j hj hx)⟩
theorem Chg.of_below {X : Nat → Prop} {w w' : World} (h : Below w.heap.size w w') : Chg X w w' := ⟨h.os, h.tape, h.output, h.size, fun j hj _ => h.block j hj⟩
theorem Chg.of_grown {w w' : World} {row : Option Nat} (h : w.grownBy w' row) : Chg (fun j => some j = row) w w' := ⟨h.os, h.tape, h.output, h.size, fun j hj hx => h.block j hj hx⟩
theorem Chg.below {X : Nat → Prop} {w w' : World} {B : Nat} (h : Chg X w w') (hX : ∀ j, X j → B ≤ j) (hB : B ≤ w.heap.size) : Below B w w' :=
  ⟨h.os, h.tape, h.output, h.size, fun j hj => h.block j (Nat.lt_of_lt_of_le hj hB) (fun hx => absurd (hX j hx) (by omega))⟩
theorem Chg.stay {X : Nat → Prop} {w w' : World} (h : Chg X w w') (hX : ∀ g cs e, w.heap[g]? = some (.cells cs e (0, 0)) → ctxTy e → ¬ X g) : Stay w w' :=
  ⟨h.size, fun g cs e he hg => (h.block g (Array.getElem?_eq_some_iff.1 hg).1 (hX g cs e hg he)).trans hg⟩
theorem Chg.heap {X : Nat → Prop} {w w' : World} (h : Chg X w w') {g : Nat} {o : Obj} (hg : w.heap[g]? = some o) (hx : ¬ X g) : w'.heap[g]? = some o := (h.block g (Array.getElem?_eq_some_iff.1 hg).1 hx).trans hg
theorem Chg.drew {X : Nat → Prop} {w w' : World} (h : Chg X w w') : Chg X w w'.drew := ⟨h.os, h.tape, h.output, h.size, h.block⟩
/-! ### closed lists of choices -/
/-- What is below each choice of S is in S. -/
def Cl (w : World) (S : List Addr) : Prop := ∀ q ∈ S, ∃ g k h ss qs, q = ⟨g, 0, none⟩ ∧ Shape w NoX g k h ss qs ∧ ∀ q' ∈ qs, q' ∈ S
theorem Cl.stay {w w' : World} {S : List Addr} (h : Cl w S) (hs : Stay w w') : Cl w' S := fun q hq => by
  obtain ⟨g, k, h', ss, qs, h1, h2, h3⟩ := h q hq
  exact ⟨g, k, h', ss, qs, h1, h2.move (hs.move NoX), h3⟩
theorem Cl.kid {w : World} {S : List Addr} {X : Nat → Prop} (h : Cl w S) {g k : Nat} {h' : Int} {ss : List Int} {qs : List Addr} (hS : Shape w X g k h' ss qs) (hm : (⟨g, 0, none⟩ : Addr) ∈ S) {q : Addr} (hq : q ∈ qs) : q ∈ S := by
  obtain ⟨g', k', h'', ss', qs', h1, h2, h3⟩ := h _ hm
  cases h1
  obtain ⟨_, _, rfl⟩ := hS.unique h2
  exact h3 q hq
end Go.Proofs.Ytcbabfndfikejaa
