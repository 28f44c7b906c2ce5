/- The table that zzTable makes: plain facts, and how it lies in memory while it is made. No condition. -/
import Derived.Test.YtcbabfndfikejaaKid
import Derived.Test.YtcbabfndfikejaaMrg
namespace Go.Proofs.Ytcbabfndfikejaa
open Go.RowKit
set_option linter.unusedSimpArgs false

/-- the same tops, with the kinds of a table -/
def nrm : Tops → Tops
  | .nil => .nil
  | .cons s _ a r => .cons s (kindOf a.len) (nrm a) (nrm r)
theorem nrm_len : ∀ f : Tops, (nrm f).len = f.len
  | .nil => rfl
  | .cons _ _ _ r => by simp [nrm, Tops.len, nrm_len r]
theorem nrm_sts : ∀ f : Tops, (nrm f).sts = f.sts
  | .nil => rfl
  | .cons _ _ _ r => by simp [nrm, Tops.sts, nrm_sts r]
theorem nrm_isNil : ∀ f : Tops, (nrm f).isNil = f.isNil
  | .nil => rfl
  | .cons .. => rfl
theorem nrm_stk : ∀ f : Tops, (nrm f).stk = f.stk
  | .nil => rfl
  | .cons s k a r => by
    show (if (nrm a).isNil then [[]] else (nrm a).stk).map (s :: ·) ++ (nrm r).stk = (if a.isNil then [[]] else a.stk).map (s :: ·) ++ r.stk
    rw [nrm_isNil, nrm_stk a, nrm_stk r]
theorem nrm_stkOf (f : Tops) : stkOf (nrm f) = stkOf f := by unfold stkOf; rw [nrm_isNil, nrm_stk]
theorem nrm_at : ∀ (f : Tops) (j : Nat), (nrm f).at? j = (f.at? j).map fun x => (x.1, kindOf x.2.2.len, nrm x.2.2)
  | .nil, _ => rfl
  | .cons .., 0 => rfl
  | .cons _ _ _ r, j + 1 => nrm_at r j
/-- A node of a good table, behind i others. -/
def NG (i : Nat) (nd : Nd) : Prop := nd.ps.length = nd.ss.length ∧ nd.ss.length ≤ 1000 ∧ (∀ j, j < nd.ss.length → ∃ p : Nat, nd.ps[j]? = some (p : Int) ∧ p < i) ∧ ∀ j s s', nd.ss[j]? = some s → nd.ss[j + 1]? = some s' → s < s'
def TG (ms : List Nd) : Prop := ∀ i nd, ms[i]? = some nd → NG i nd
theorem TG.snoc {ms : List Nd} {nd : Nd} (h : TG ms) (hn : NG ms.length nd) : TG (ms ++ [nd]) := fun i nd' hi => by
  rcases Nat.lt_or_ge i ms.length with hlt | hge
  · rw [List.getElem?_append_left hlt] at hi; exact h i nd' hi
  · rw [List.getElem?_append_right hge] at hi
    have : i = ms.length := by
      rcases Nat.eq_zero_or_pos (i - ms.length) with h0 | h0
      · omega
      · rw [List.getElem?_eq_none (by simp; omega)] at hi; cases hi
    subst this
    simp at hi
    subst hi
    exact hn
theorem TG.tab {ms : List Nd} (h : TG ms) (hl : ms.length ≤ 1000) : TabOk ms := ⟨hl, fun i nd hi => ⟨(h i nd hi).1, (h i nd hi).2.1, (h i nd hi).2.2.1⟩⟩
theorem tr_append {ms l : List Nd} {j : Nat} (hj : j < ms.length) : tr (ms ++ l) j = tr ms j := by
  have h := built_at (ns := ms ++ l) (k := ms.length) hj (by simp)
  rw [List.take_left] at h
  unfold tr
  rw [List.getD_eq_getElem?_getD, List.getD_eq_getElem?_getD, h]
theorem mkTops_nrm {bs : List (Nat × Tops)} : ∀ (f : Tops) (ps : List Int), ps.length = f.len → (∀ j s k a, f.at? j = some (s, k, a) → ∃ p : Nat, ps[j]? = some (p : Int) ∧ bs.getD p (0, .nil) = (kindOf a.len, nrm a)) → mkTops bs ps f.sts = nrm f
  | .nil, ps, _, _ => by rw [show Tops.sts .nil = [] from rfl, mkTops_nil]; rfl
  | .cons s k a r, ps, hl, h => by
    match ps, hl, h with
    | [], hl, _ => simp [Tops.len] at hl
    | x :: ps, hl, h =>
      obtain ⟨p, hp, hb⟩ := h 0 s k a rfl
      simp at hp
      subst hp
      have ih := mkTops_nrm (bs := bs) r ps (by simpa [Tops.len] using hl) (fun j s k a hj => h (j + 1) s k a hj)
      show Tops.cons s _ _ (mkTops bs ps r.sts) = _
      rw [ih]
      have e : bs.getD (Int.toNat (p : Int)) (0, .nil) = (kindOf a.len, nrm a) := hb
      rw [e]
      rfl
theorem nodup_sub : ∀ (K S : List Addr), K.Nodup → (∀ x ∈ K, x ∈ S) → K.length ≤ S.length
  | [], _, _, _ => Nat.zero_le _
  | x :: K, S, hn, hs => by
    have hx := hs x (List.mem_cons_self ..)
    have h1 := List.length_erase_of_mem hx
    have h2 := nodup_sub K (S.erase x) (List.nodup_cons.1 hn).2 (fun y hy => by
      have hne : y ≠ x := fun e => (List.nodup_cons.1 hn).1 (e ▸ hy)
      exact (List.mem_erase_of_ne hne).2 (hs y (List.mem_cons_of_mem _ hy)))
    have h3 : 0 < S.length := List.length_pos_of_mem hx
    simp only [List.length_cons]
    omega

/-! ### the map of what is known -/
def KD (K : List Addr) : PPrs := K.zipIdx.map fun x => (x.1, Value.int .i64 ((x.2 : Nat) : Int))
theorem KD_snoc (K : List Addr) (a : Addr) : KD (K ++ [a]) = KD K ++ [(a, .int .i64 ((K.length : Nat) : Int))] := by
  unfold KD
  rw [List.zipIdx_append, List.map_append]
  simp
theorem KD_mem {K : List Addr} {x : Addr × Value} (h : x ∈ KD K) : x.1 ∈ K := by
  obtain ⟨y, hy, rfl⟩ := List.mem_map.1 h
  exact List.fst_mem_of_mem_zipIdx hy
theorem look_append (D E : PPrs) (a : Addr) : (D ++ E).look a = (D.look a).or (E.look a) := by
  induction D with
  | nil => rfl
  | cons x t ih =>
    simp only [List.cons_append, PPrs.look]
    split
    · rfl
    · exact ih
theorem KD_look (K : List Addr) (a : Addr) : (a ∉ K → (KD K).look a = none) ∧ (a ∈ K → ∃ i : Nat, K[i]? = some a ∧ (KD K).look a = some (.int .i64 (i : Int))) := by
  have key : ∀ L : List Addr, (a ∉ L.reverse → (KD L.reverse).look a = none) ∧ (a ∈ L.reverse → ∃ i : Nat, L.reverse[i]? = some a ∧ (KD L.reverse).look a = some (.int .i64 (i : Int))) := by
    intro L
    induction L with
    | nil => exact ⟨fun _ => rfl, fun h => by simp at h⟩
    | cons x t ih =>
      rw [List.reverse_cons, KD_snoc, look_append]
      constructor
      · intro h
        rw [List.mem_append] at h
        rw [ih.1 (fun h' => h (.inl h'))]
        have hx : a ≠ x := fun e => h (.inr (by rw [e]; simp))
        simp [PPrs.look, hx]
      · intro h
        by_cases hm : a ∈ t.reverse
        · obtain ⟨i, h1, h2⟩ := ih.2 hm
          exact ⟨i, by rw [List.getElem?_append_left (List.getElem?_eq_some_iff.1 h1).1]; exact h1, by rw [h2]; rfl⟩
        · rw [List.mem_append] at h
          rcases h with h | h
          · exact absurd h hm
          · simp at h
            subst h
            exact ⟨t.reverse.length, by simp, by rw [ih.1 hm]; simp [PPrs.look]⟩
  have := key K.reverse
  rw [List.reverse_reverse] at this
  exact this

/-! ### memory -/
/-- a slice of the call's own that has the nodes, with rows of numbers that X does not name -/
def TblX (w : World) (X : Nat → Prop) (B : Nat) (v : Value) (ms : List Nd) : Prop :=
  ∃ xs, w.ownsRow B 76 2 v ms.length xs ∧ ∀ i nd, ms[i]? = some nd → ∃ A c A' c', xs[i * 2]? = some (.slice A nd.ps.length c) ∧ xs[i * 2 + 1]? = some (.slice A' nd.ss.length c') ∧ Row w X 3 A nd.ps.length (ints nd.ps) ∧ Row w X 3 A' nd.ss.length (ints nd.ss)
theorem TblX.move {w w' : World} {X X' : Nat → Prop} {B : Nat} {v : Value} {ms : List Nd} (h : TblX w X B v ms) (hm : Move X X' w w') (hv : ∀ g, v.ownBlock = some g → w'.heap[g]? = w.heap[g]?) : TblX w' X' B v ms := by
  obtain ⟨xs, h1, h2⟩ := h
  refine ⟨xs, ?_, fun i nd hi => ?_⟩
  · refine ⟨h1.1, ?_⟩
    rcases h1.2 with h | ⟨g, cap, cur, hv', hb, hg, hr⟩
    · exact .inl h
    · exact .inr ⟨g, cap, cur, hv', hb, by rw [hv g (by rw [hv']; rfl)]; exact hg, hr⟩
  · obtain ⟨A, c, A', c', e1, e2, r1, r2⟩ := h2 i nd hi
    exact ⟨A, c, A', c', e1, e2, r1.move hm (.inr (.inr rfl)), r2.move hm (.inr (.inr rfl))⟩
theorem Move.of_sub {X X' : Nat → Prop} (w : World) (h : ∀ g, X' g → X g) : Move X X' w w := fun _ _ _ _ hx hg => ⟨hg, fun hx' => hx (h _ hx')⟩
/-- a node more -/
theorem TblX.snoc {w w' : World} {X : Nat → Prop} {B : Nat} {v' : Value} {ms : List Nd} {nd : Nd} {xs : List Value} {A A' : Option Addr} {c c' : Nat} (h0 : xs.length = ms.length * 2)
    (h2 : ∀ i nd, ms[i]? = some nd → ∃ A c A' c', xs[i * 2]? = some (.slice A nd.ps.length c) ∧ xs[i * 2 + 1]? = some (.slice A' nd.ss.length c') ∧ Row w X 3 A nd.ps.length (ints nd.ps) ∧ Row w X 3 A' nd.ss.length (ints nd.ss))
    (hu : Row w X 3 A nd.ps.length (ints nd.ps)) (hu' : Row w X 3 A' nd.ss.length (ints nd.ss))
    (h3 : w'.ownsRow B 76 2 v' (ms.length + 1) (xs ++ [.slice A nd.ps.length c, .slice A' nd.ss.length c'])) (hm : Move X X w w') : TblX w' X B v' (ms ++ [nd]) := by
  refine ⟨_, by simpa using h3, fun i nd' hi => ?_⟩
  rcases Nat.lt_or_ge i ms.length with hlt | hge
  · rw [List.getElem?_append_left hlt] at hi
    obtain ⟨A1, c1, A2, c2, e1, e2, r1, r2⟩ := h2 i nd' hi
    exact ⟨A1, c1, A2, c2, by rw [List.getElem?_append_left (by omega)]; exact e1, by rw [List.getElem?_append_left (by omega)]; exact e2, r1.move hm (.inr (.inr rfl)), r2.move hm (.inr (.inr rfl))⟩
  · rw [List.getElem?_append_right hge] at hi
    have : i = ms.length := by
      rcases Nat.eq_zero_or_pos (i - ms.length) with h0 | h0
      · omega
      · rw [List.getElem?_eq_none (by simp; omega)] at hi; cases hi
    subst this
    simp at hi
    subst hi
    exact ⟨A, c, A', c', by rw [List.getElem?_append_right (by omega)]; simp [h0], by rw [List.getElem?_append_right (by omega)]; simp [h0], hu.move hm (.inr (.inr rfl)), hu'.move hm (.inr (.inr rfl))⟩

/-- the closure's value -/
def addFn (gk ga gt : Nat) : Value := .func (.func 83) #[] #[.pointer (some ⟨gk, 0, none⟩), .pointer (some ⟨ga, 0, none⟩), .pointer (some ⟨gt, 0, none⟩)]
/-- how it lies while the table is made -/
structure ZMem (w : World) (X : Nat → Prop) (B gk ga gt m : Nat) (v : Value) (K : List Addr) (ms : List Nd) : Prop where
  hk : w.heap[gk]? = some (.cells #[.map (some m)] 119 (0, 0))
  ha : w.heap[ga]? = some (.cells #[addFn gk ga gt] 120 (0, 0))
  ht : w.heap[gt]? = some (.cells #[v] 59 (0, 0))
  tbl : TblX w X B v ms
  map : PMap w m (KD K)
/-- what the table says -/
structure ZP (w : World) (S K : List Addr) (ms : List Nd) : Prop where
  len : K.length = ms.length
  nd : K.Nodup
  sub : ∀ q ∈ K, q ∈ S
  good : TG ms
  rep : ∀ j q, K[j]? = some q → ∃ k f, Rep w NoX q k f ∧ tr ms j = (kindOf f.len, nrm f)
theorem ZP.stay {w w' : World} {S K : List Addr} {ms : List Nd} (h : ZP w S K ms) (hs : Stay w w') : ZP w' S K ms := ⟨h.len, h.nd, h.sub, h.good, fun j q hj => by
  obtain ⟨k, f, h1, h2⟩ := h.rep j q hj
  exact ⟨k, f, h1.stay hs, h2⟩⟩
/-- the blocks that a call of the closure writes -/
def Exc (gt m : Nat) (v : Value) : Nat → Prop := fun j => j = gt ∨ j = m ∨ v.ownBlock = some j
theorem ZMem.exc {w : World} {X : Nat → Prop} {B gk ga gt m : Nat} {v : Value} {K : List Addr} {ms : List Nd} (h : ZMem w X B gk ga gt m v K ms) : ∀ g cs e, w.heap[g]? = some (.cells cs e (0, 0)) → ctxTy e → ¬ Exc gt m v g := by
  intro g cs e hg he hx
  rcases hx with rfl | rfl | hv
  · rw [h.ht] at hg
    injection hg with hg
    injection hg with _ ht
    subst ht
    rcases he with he | he | he <;> cases he
  · obtain ⟨es, clock, hm, _⟩ := h.map
    rw [hm] at hg
    cases hg
  · obtain ⟨xs, ho, _⟩ := h.tbl
    rcases ho.2 with ⟨rfl, _⟩ | ⟨g', cap, cur, rfl, _, hh, _⟩
    · simp [Value.ownBlock] at hv
    · simp only [Value.ownBlock, Option.some.injEq] at hv
      subst hv
      rw [hh] at hg
      injection hg with hg
      injection hg with _ ht
      subst ht
      rcases he with he | he | he <;> cases he
theorem ZP.keys {w : World} {S K : List Addr} {ms : List Nd} (h : ZP w S K ms) : ∀ x ∈ KD K, AtCtx w x.1 := fun x hx => by
  obtain ⟨j, hj⟩ := List.mem_iff_getElem?.1 (KD_mem hx)
  obtain ⟨k, f, hr, _⟩ := h.rep j _ hj
  exact hr.atCtx
end Go.Proofs.Ytcbabfndfikejaa
