/- Q3, in one: The table that zzTable makes: plain facts, and how it lies in memory while it is made. No condition. A region that draws its order, walked along a schedule, as in the text DrawS; but the last step may wait for what is taken through others. What stays of the table while the closure writes the node that it makes. No condition. What the table says, and how it lies, when a node has been added. No condition. -/
import Derived.Test.YtcbabfndfikejaaZ3
import Derived.Test.YtcbabfndfikejaaZ2
import Derived.Handy
/- The table that zzTable makes: plain facts, and how it lies in memory while it is made. No condition. -/
namespace Go.Proofs.Ytcbabfndfikejaa
open Go.RowKit
set_option linter.unusedSimpArgs false
/-- the same tops, with the kinds of a table -/
def nrm : Tops → Tops
  | .nil => .nil
  | .cons s _ a r => .cons s (kindOf a.len) (nrm a) (nrm r)
theorem nrm_isNil : ∀ f : Tops, (nrm f).isNil = f.isNil
  | .nil => rfl
  | .cons .. => rfl
theorem nrm_stk : ∀ f : Tops, (nrm f).stk = f.stk
  | .nil => rfl
  | .cons s k a r => by
    show (if (nrm a).isNil then [[]] else (nrm a).stk).map (s :: ·) ++ (nrm r).stk = (if a.isNil then [[]] else a.stk).map (s :: ·) ++ r.stk
    rw [nrm_isNil, nrm_stk a, nrm_stk r]
theorem nrm_stkOf (f : Tops) : stkOf (nrm f) = stkOf f := by unfold stkOf; rw [nrm_isNil, nrm_stk]
/-- A node of a good table, behind i others. -/
def NG (i : Nat) (nd : Nd) : Prop := nd.ps.length = nd.ss.length ∧ nd.ss.length ≤ 1000 ∧ (∀ j, j < nd.ss.length → ∃ p : Nat, nd.ps[j]? = some (p : Int) ∧ p < i) ∧ ∀ j s s', nd.ss[j]? = some s → nd.ss[j + 1]? = some s' → s < s'
def TG (ms : List Nd) : Prop := ∀ i nd, ms[i]? = some nd → NG i nd
theorem TG.snoc {ms : List Nd} {nd : Nd} (h : TG ms) (hn : NG ms.length nd) : TG (ms ++ [nd]) := fun i nd' hi => by
  rcases Nat.lt_or_ge i ms.length with hlt | hge
  · rw [List.getElem?_append_left hlt] at hi; exact h i nd' hi
  · rw [List.getElem?_append_right hge] at hi
    have : i = ms.length := by
      rcases Nat.eq_zero_or_pos (i - ms.length) with h0 | h0
      · omega
      · rw [List.getElem?_eq_none (by simp; omega)] at hi; cases hi
    subst this
    simp at hi
    subst hi
    exact hn
theorem TG.tab {ms : List Nd} (h : TG ms) (hl : ms.length ≤ 1000) : TabOk ms := ⟨hl, fun i nd hi => ⟨(h i nd hi).1, (h i nd hi).2.1, (h i nd hi).2.2.1⟩⟩
theorem tr_append {ms l : List Nd} {j : Nat} (hj : j < ms.length) : tr (ms ++ l) j = tr ms j := by
  have h := built_at (ns := ms ++ l) (k := ms.length) hj (by simp)
  rw [List.take_left] at h
  unfold tr
  rw [List.getD_eq_getElem?_getD, List.getD_eq_getElem?_getD, h]
theorem mkTops_nrm {bs : List (Nat × Tops)} : ∀ (f : Tops) (ps : List Int), ps.length = f.len → (∀ j s k a, f.at? j = some (s, k, a) → ∃ p : Nat, ps[j]? = some (p : Int) ∧ bs.getD p (0, .nil) = (kindOf a.len, nrm a)) → mkTops bs ps f.sts = nrm f
  | .nil, ps, _, _ => by rw [show Tops.sts .nil = [] from rfl, mkTops_nil]; rfl
  | .cons s k a r, ps, hl, h => by
    match ps, hl, h with
    | [], hl, _ => simp [Tops.len] at hl
    | x :: ps, hl, h =>
      obtain ⟨p, hp, hb⟩ := h 0 s k a rfl
      simp at hp
      subst hp
      have ih := mkTops_nrm (bs := bs) r ps (by simpa [Tops.len] using hl) (fun j s k a hj => h (j + 1) s k a hj)
      show Tops.cons s _ _ (mkTops bs ps r.sts) = _
      rw [ih]
      have e : bs.getD (Int.toNat (p : Int)) (0, .nil) = (kindOf a.len, nrm a) := hb
      rw [e]
      rfl
theorem nodup_sub : ∀ (K S : List Addr), K.Nodup → (∀ x ∈ K, x ∈ S) → K.length ≤ S.length
  | [], _, _, _ => Nat.zero_le _
  | x :: K, S, hn, hs => by
    have hx := hs x (List.mem_cons_self ..)
    have h1 := List.length_erase_of_mem hx
    have h2 := nodup_sub K (S.erase x) (List.nodup_cons.1 hn).2 (fun y hy => by
      have hne : y ≠ x := fun e => (List.nodup_cons.1 hn).1 (e ▸ hy)
      exact (List.mem_erase_of_ne hne).2 (hs y (List.mem_cons_of_mem _ hy)))
    have h3 : 0 < S.length := List.length_pos_of_mem hx
    simp only [List.length_cons]
    omega
/-! ### the map of what is known -/
def KD (K : List Addr) : PPrs := K.zipIdx.map fun x => (x.1, Value.int .i64 ((x.2 : Nat) : Int))
theorem KD_snoc (K : List Addr) (a : Addr) : KD (K ++ [a]) = KD K ++ [(a, .int .i64 ((K.length : Nat) : Int))] := by
  unfold KD
  rw [List.zipIdx_append, List.map_append]
  simp
theorem KD_mem {K : List Addr} {x : Addr × Value} (h : x ∈ KD K) : x.1 ∈ K := by
  obtain ⟨y, hy, rfl⟩ := List.mem_map.1 h
  exact List.fst_mem_of_mem_zipIdx hy
theorem look_append (D E : PPrs) (a : Addr) : (D ++ E).look a = (D.look a).or (E.look a) := by
  induction D with
  | nil => rfl
  | cons x t ih =>
    simp only [List.cons_append, PPrs.look]
    split
    · rfl
    · exact ih
theorem KD_look (K : List Addr) (a : Addr) : (a ∉ K → (KD K).look a = none) ∧ (a ∈ K → ∃ i : Nat, K[i]? = some a ∧ (KD K).look a = some (.int .i64 (i : Int))) := by
  have key : ∀ L : List Addr, (a ∉ L.reverse → (KD L.reverse).look a = none) ∧ (a ∈ L.reverse → ∃ i : Nat, L.reverse[i]? = some a ∧ (KD L.reverse).look a = some (.int .i64 (i : Int))) := by
    intro L
    induction L with
    | nil => exact ⟨fun _ => rfl, fun h => by simp at h⟩
    | cons x t ih =>
      rw [List.reverse_cons, KD_snoc, look_append]
      constructor
      · intro h
        rw [List.mem_append] at h
        rw [ih.1 (fun h' => h (.inl h'))]
        have hx : a ≠ x := fun e => h (.inr (by rw [e]; simp))
        simp [PPrs.look, hx]
      · intro h
        by_cases hm : a ∈ t.reverse
        · obtain ⟨i, h1, h2⟩ := ih.2 hm
          exact ⟨i, by rw [List.getElem?_append_left (List.getElem?_eq_some_iff.1 h1).1]; exact h1, by rw [h2]; rfl⟩
        · rw [List.mem_append] at h
          rcases h with h | h
          · exact absurd h hm
          · simp at h
            subst h
            exact ⟨t.reverse.length, by simp, by rw [ih.1 hm]; simp [PPrs.look]⟩
  have := key K.reverse
  rw [List.reverse_reverse] at this
  exact this
/-! ### memory -/
/-- a slice of the call's own that has the nodes, with rows of numbers that X does not name -/
def TblX (w : World) (X : Nat → Prop) (B : Nat) (v : Value) (ms : List Nd) : Prop :=
  ∃ xs, w.ownsRow B 76 2 v ms.length xs ∧ ∀ i nd, ms[i]? = some nd → ∃ A c A' c', xs[i * 2]? = some (.slice A nd.ps.length c) ∧ xs[i * 2 + 1]? = some (.slice A' nd.ss.length c') ∧ Row w X 3 A nd.ps.length (ints nd.ps) ∧ Row w X 3 A' nd.ss.length (ints nd.ss)
theorem TblX.move {w w' : World} {X X' : Nat → Prop} {B : Nat} {v : Value} {ms : List Nd} (h : TblX w X B v ms) (hm : Move X X' w w') (hv : ∀ g, v.ownBlock = some g → w'.heap[g]? = w.heap[g]?) : TblX w' X' B v ms := by
  obtain ⟨xs, h1, h2⟩ := h
  refine ⟨xs, ?_, fun i nd hi => ?_⟩
  · refine ⟨h1.1, ?_⟩
    rcases h1.2 with h | ⟨g, cap, cur, hv', hb, hg, hr⟩
    · exact .inl h
    · exact .inr ⟨g, cap, cur, hv', hb, by rw [hv g (by rw [hv']; rfl)]; exact hg, hr⟩
  · obtain ⟨A, c, A', c', e1, e2, r1, r2⟩ := h2 i nd hi
    exact ⟨A, c, A', c', e1, e2, r1.move hm (.inr (.inr rfl)), r2.move hm (.inr (.inr rfl))⟩
theorem Move.of_sub {X X' : Nat → Prop} (w : World) (h : ∀ g, X' g → X g) : Move X X' w w := fun _ _ _ _ hx hg => ⟨hg, fun hx' => hx (h _ hx')⟩
/-- a node more -/
theorem TblX.snoc {w w' : World} {X : Nat → Prop} {B : Nat} {v' : Value} {ms : List Nd} {nd : Nd} {xs : List Value} {A A' : Option Addr} {c c' : Nat} (h0 : xs.length = ms.length * 2)
    (h2 : ∀ i nd, ms[i]? = some nd → ∃ A c A' c', xs[i * 2]? = some (.slice A nd.ps.length c) ∧ xs[i * 2 + 1]? = some (.slice A' nd.ss.length c') ∧ Row w X 3 A nd.ps.length (ints nd.ps) ∧ Row w X 3 A' nd.ss.length (ints nd.ss))
    (hu : Row w X 3 A nd.ps.length (ints nd.ps)) (hu' : Row w X 3 A' nd.ss.length (ints nd.ss))
    (h3 : w'.ownsRow B 76 2 v' (ms.length + 1) (xs ++ [.slice A nd.ps.length c, .slice A' nd.ss.length c'])) (hm : Move X X w w') : TblX w' X B v' (ms ++ [nd]) := by
  refine ⟨_, by simpa using h3, fun i nd' hi => ?_⟩
  rcases Nat.lt_or_ge i ms.length with hlt | hge
  · rw [List.getElem?_append_left hlt] at hi
    obtain ⟨A1, c1, A2, c2, e1, e2, r1, r2⟩ := h2 i nd' hi
    exact ⟨A1, c1, A2, c2, by rw [List.getElem?_append_left (by omega)]; exact e1, by rw [List.getElem?_append_left (by omega)]; exact e2, r1.move hm (.inr (.inr rfl)), r2.move hm (.inr (.inr rfl))⟩
  · rw [List.getElem?_append_right hge] at hi
    have : i = ms.length := by
      rcases Nat.eq_zero_or_pos (i - ms.length) with h0 | h0
      · omega
      · rw [List.getElem?_eq_none (by simp; omega)] at hi; cases hi
    subst this
    simp at hi
    subst hi
    exact ⟨A, c, A', c', by rw [List.getElem?_append_right (by omega)]; simp [h0], by rw [List.getElem?_append_right (by omega)]; simp [h0], hu.move hm (.inr (.inr rfl)), hu'.move hm (.inr (.inr rfl))⟩
/-- the closure's value -/
def addFn (gk ga gt : Nat) : Value := .func (.func 83) #[] #[.pointer (some ⟨gk, 0, none⟩), .pointer (some ⟨ga, 0, none⟩), .pointer (some ⟨gt, 0, none⟩)]
/-- how it lies while the table is made -/
structure ZMem (w : World) (X : Nat → Prop) (B gk ga gt m : Nat) (v : Value) (K : List Addr) (ms : List Nd) : Prop where
  hk : w.heap[gk]? = some (.cells #[.map (some m)] 119 (0, 0))
  ha : w.heap[ga]? = some (.cells #[addFn gk ga gt] 120 (0, 0))
  ht : w.heap[gt]? = some (.cells #[v] 59 (0, 0))
  tbl : TblX w X B v ms
  map : PMap w m (KD K)
/-- what the table says -/
structure ZP (w : World) (S K : List Addr) (ms : List Nd) : Prop where
  len : K.length = ms.length
  nd : K.Nodup
  sub : ∀ q ∈ K, q ∈ S
  good : TG ms
  rep : ∀ j q, K[j]? = some q → ∃ k f, Rep w NoX q k f ∧ tr ms j = (kindOf f.len, nrm f)
theorem ZP.stay {w w' : World} {S K : List Addr} {ms : List Nd} (h : ZP w S K ms) (hs : Stay w w') : ZP w' S K ms := ⟨h.len, h.nd, h.sub, h.good, fun j q hj => by
  obtain ⟨k, f, h1, h2⟩ := h.rep j q hj
  exact ⟨k, f, h1.stay hs, h2⟩⟩
/-- the blocks that a call of the closure writes -/
def Exc (gt m : Nat) (v : Value) : Nat → Prop := fun j => j = gt ∨ j = m ∨ v.ownBlock = some j
theorem ZMem.exc {w : World} {X : Nat → Prop} {B gk ga gt m : Nat} {v : Value} {K : List Addr} {ms : List Nd} (h : ZMem w X B gk ga gt m v K ms) : ∀ g cs e, w.heap[g]? = some (.cells cs e (0, 0)) → ctxTy e → ¬ Exc gt m v g := by
  intro g cs e hg he hx
  rcases hx with rfl | rfl | hv
  · rw [h.ht] at hg
    injection hg with hg
    injection hg with _ ht
    subst ht
    rcases he with he | he | he <;> cases he
  · obtain ⟨es, clock, hm, _⟩ := h.map
    rw [hm] at hg
    cases hg
  · obtain ⟨xs, ho, _⟩ := h.tbl
    rcases ho.2 with ⟨rfl, _⟩ | ⟨g', cap, cur, rfl, _, hh, _⟩
    · simp [Value.ownBlock] at hv
    · simp only [Value.ownBlock, Option.some.injEq] at hv
      subst hv
      rw [hh] at hg
      injection hg with hg
      injection hg with _ ht
      subst ht
      rcases he with he | he | he <;> cases he
theorem ZP.keys {w : World} {S K : List Addr} {ms : List Nd} (h : ZP w S K ms) : ∀ x ∈ KD K, AtCtx w x.1 := fun x hx => by
  obtain ⟨j, hj⟩ := List.mem_iff_getElem?.1 (KD_mem hx)
  obtain ⟨k, f, hr, _⟩ := h.rep j _ hj
  exact hr.atCtx
end Go.Proofs.Ytcbabfndfikejaa
/- A region that draws its order, walked along a schedule, as in the text DrawS; but the last step may wait for what is taken through others. -/
namespace Go.Proofs.Ytcbabfndfikejaa
section
variable {P : Program} {ops : Array Oper} {Q : Exit → Act → World → Prop} {S : World → Prop} {F0 : List Nat}
/-- Does operation j wait for k, itself or through others? -/
def before (ops : Array Oper) (k : Nat) : Nat → Nat → Bool
  | 0, _ => false
  | n + 1, j => match ops[j]? with
    | some o => o.after.any fun e => Region.binds .any e && (e.on == k || before ops k n e.on)
    | none => false
def waitsT (F : List Nat) (ops : Array Oper) (j : Nat) : Bool := F.all fun k => k == j || before ops k 6 j
/-- What is listed has all that it waits for listed. -/
def Down (ops : Array Oper) (listed : Array Bool) : Prop := ∀ j oj, ops[j]? = some oj → listed.getD j false = true → ∀ e ∈ oj.after, Region.binds .any e = true → listed.getD e.on false = true
theorem Down.set {listed : Array Bool} {j : Nat} (h : Down ops listed) (hj : j ∈ Region.ready .any ops listed) : Down ops (listed.setIfInBounds j true) := by
  obtain ⟨hun, oj, hoj, hall⟩ := mem_ready.1 hj
  have keep : ∀ x, listed.getD x false = true → (listed.setIfInBounds j true).getD x false = true := fun x hx => by
    by_cases e : j = x
    · subst e
      rcases Nat.lt_or_ge j listed.size with h' | h'
      · simp [h']
      · simp [Array.getElem?_eq_none h'] at hx
    · rw [getD_set_ne false e]; exact hx
  intro x ox hox hx e he hb
  by_cases hjx : j = x
  · subst hjx
    rw [hoj] at hox
    cases hox
    exact keep _ (hall e he hb)
  · rw [getD_set_ne false hjx] at hx
    exact keep _ (h x ox hox hx e he hb)
theorem Down.start (n : Nat) : Down ops (Array.replicate n false) := fun j oj _ hl => by
  rcases Nat.lt_or_ge j n with h | h
  · simp [Array.getD, h] at hl
  · simp [Array.getD] at hl
theorem before_listed {listed : Array Bool} (hd : Down ops listed) {k : Nat} : ∀ (n j : Nat), before ops k n j = true → listed.getD j false = true → listed.getD k false = true
  | 0, _, h, _ => by simp [before] at h
  | n + 1, j, h, hl => by
    unfold before at h
    cases ho : ops[j]? with
    | none => rw [ho] at h; cases h
    | some o =>
      rw [ho] at h
      simp only [Array.any_eq_true', Bool.and_eq_true, Bool.or_eq_true, beq_iff_eq] at h
      obtain ⟨e, he, hb, h⟩ := h
      have h1 := hd j o ho hl e he hb
      rcases h with rfl | h
      · exact h1
      · exact before_listed hd n _ h h1
theorem waits_specT {F : List Nat} {listed : Array Bool} {i j : Nat} (hd : Down ops listed) (hF : i ∈ F) (hc : waitsT F ops j = true) (hj : j ∈ Region.ready .any ops listed) (hi : i ∈ Region.ready .any ops listed) (hne : j ≠ i) : False := by
  obtain ⟨_, oj, hoj, hall⟩ := mem_ready.1 hj
  obtain ⟨hun, _⟩ := mem_ready.1 hi
  simp only [waitsT, List.all_eq_true, Bool.or_eq_true, beq_iff_eq] at hc
  rcases hc i hF with h | h
  · exact hne h.symm
  · unfold before at h
    rw [hoj] at h
    simp only [Array.any_eq_true', Bool.and_eq_true, Bool.or_eq_true, beq_iff_eq] at h
    obtain ⟨e, he, hb, h⟩ := h
    have h1 := hall e he hb
    have h2 : listed.getD i false = true := by
      rcases h with rfl | h
      · exact h1
      · exact before_listed hd _ _ h h1
    rcases Nat.lt_or_ge i listed.size with h' | h'
    · simp [h'] at hun h2; rw [hun] at h2; cases h2
    · simp [Array.getElem?_eq_none h'] at h2
def wpAnyT (P : Program) (ops : Array Oper) (Q : Exit → Act → World → Prop) (S : World → Prop) (F0 : List Nat) : Nat → Array Bool → Act → World → Prop
  | 0, listed, a, w => Region.ready .any ops listed = [] ∧ Q .normal a w
  | fuel + 1, listed, a, w =>
    (Region.ready .any ops listed = [] → Q .normal a w) ∧
    ∀ i ∈ Region.ready .any ops listed, wpOp P ops Q i (fun a' w' => (waitsT F0 ops i = true ∨ S w') ∧ wpAnyT P ops Q S F0 fuel (listed.setIfInBounds i true) a' w') a w
theorem wpAny_of_T : ∀ (fuel : Nat) (listed : Array Bool) (a : Act) (w : World), wpAnyT P ops Q S F0 fuel listed a w → wpAny P .any ops Q fuel listed a w
  | 0, _, _, _, h => h
  | fuel + 1, _, _, _, h => ⟨h.1, fun i hi => wpOp_mono (fun a' w' h' => wpAny_of_T fuel _ a' w' h'.2) (h.2 i hi)⟩
theorem wpAnyT_first {i : Nat} {oi : Oper} {v : Value} (hiF : i ∈ F0) (hi : ops[i]? = some oi) (hsel : ∀ (j : Nat) (o : Oper) cs b, ops[j]? = some o → o.op ≠ .select cs b)
    (hQ : ∀ c a w, Q (.panic c) (a.put oi.dst v) w → Q (.panic c) a w) :
    ∀ (fuel : Nat) (listed : Array Bool) (a : Act) (w : World),
      (∀ j oj, ops[j]? = some oj → j ≠ i → listed.getD j true = false → (∀ e ∈ oj.after, Region.binds .any e = true → e.on ≠ i) → oi.apart ops oj = true) →
      Down ops listed → i ∈ Region.ready .any ops listed → YieldsIf P ops S oi v a → S w →
      wpAnyT P ops Q S F0 fuel (listed.setIfInBounds i true) (a.put oi.dst v) w → wpAnyT P ops Q S F0 (fuel + 1) listed a w := by
  intro fuel
  induction fuel with
  | zero =>
    intro listed a w _ _ hr hy hS H
    refine ⟨fun h => (by rw [h] at hr; cases hr), fun j hj => ?_⟩
    by_cases hji : j = i
    · subst hji; exact hy.wpOp hi hS ⟨.inr hS, H⟩
    · have := ready_mono hj hji
      rw [H.1] at this
      cases this
  | succ fuel ih =>
    intro listed a w hfree hd hr hy hS H
    refine ⟨fun h => (by rw [h] at hr; cases hr), fun j hj => ?_⟩
    by_cases hji : j = i
    · subst hji; exact hy.wpOp hi hS ⟨.inr hS, H⟩
    · have h1 := H.2 j (ready_mono hj hji)
      obtain ⟨hjun, oj, hoj, hall⟩ := mem_ready.1 hj
      have hnot : ∀ e ∈ oj.after, Region.binds .any e = true → e.on ≠ i := fun e he hb heq => by
        have h1 := hall e he hb
        have h0 := (mem_ready.1 hr).1
        rw [heq] at h1
        rcases Nat.lt_or_ge i listed.size with h' | h'
        · simp [h'] at h0 h1; rw [h0] at h1; cases h1
        · simp [Array.getElem?_eq_none h'] at h1
      have h2 := wpOp_putIf hoj (hfree j oj hoj hji hjun hnot) (fun cs b => hsel i oi cs b hi) (fun cs b => hsel j oj cs b hoj) hQ hy h1
      have hfree' : ∀ k ok, ops[k]? = some ok → k ≠ i → (listed.setIfInBounds j true).getD k true = false →
          (∀ e ∈ ok.after, Region.binds .any e = true → e.on ≠ i) → oi.apart ops ok = true := fun k ok hk hki hun hno => by
        refine hfree k ok hk hki ?_ hno
        by_cases hjk : j = k
        · subst hjk; exact hjun
        · rw [getD_set_ne true hjk] at hun; exact hun
      refine wpOp_mono (fun a' w' h3 => ?_) h2
      have hS' : S w' := h3.2.1.resolve_left (fun hc => waits_specT hd hiF hc hj hr hji)
      refine ⟨.inr hS', ih (listed.setIfInBounds j true) a' w' hfree' (hd.set hj) (ready_mono hr (Ne.symm hji)) h3.1 hS' ?_⟩
      rw [Array.setIfInBounds_comm _ _ hji]
      exact h3.2.2
def AlongT (P : Program) (ops : Array Oper) (Q : Exit → Act → World → Prop) (S : World → Prop) (F0 : List Nat) : Sch → Act → World → Prop
  | .done, a, w => Q .normal a w
  | .take i r, a, w => ∃ o v, ops[i]? = some o ∧ YieldsIf P ops S o v a ∧ AlongT P ops Q S F0 r (a.put o.dst v) w
  | .step i r, a, w => wpOp P ops Q i (fun a' w' => ((r.takes = [] ∧ waitsT F0 ops i = true) ∨ S w') ∧ AlongT P ops Q S F0 r a' w') a w
  | .fork i j r s, a, w => wpOp P ops Q i (fun a' w' => ((r.takes = [] ∧ waitsT F0 ops i = true) ∨ S w') ∧ AlongT P ops Q S F0 r a' w') a w ∧ wpOp P ops Q j (fun a' w' => ((s.takes = [] ∧ waitsT F0 ops j = true) ∨ S w') ∧ AlongT P ops Q S F0 s a' w') a w
def okST (ops : Array Oper) (F0 : List Nat) : Array Bool → Sch → Bool
  | listed, .done => Region.ready .any ops listed == []
  | listed, .take i r => F0.contains i && Region.free .any ops listed i && (Region.ready .any ops listed).contains i && okST ops F0 (listed.setIfInBounds i true) r
  | listed, .step i r => Region.ready .any ops listed == [i] && okST ops F0 (listed.setIfInBounds i true) r
  | listed, .fork i j r s => Region.ready .any ops listed == [i, j] && r.len == s.len && okST ops F0 (listed.setIfInBounds i true) r && okST ops F0 (listed.setIfInBounds j true) s
theorem wpAnyT_along (hs : Region.noSelect ops = true) (hQ : ∀ (d : Option Tmp) (v : Value) c a w, Q (.panic c) (a.put d v) w → Q (.panic c) a w) :
    ∀ (M : Sch) (listed : Array Bool) (a : Act) (w : World), Down ops listed → okST ops F0 listed M = true → (M.takes = [] ∨ S w) → AlongT P ops Q S F0 M a w → wpAnyT P ops Q S F0 M.len listed a w := by
  intro M
  induction M with
  | done => intro listed a w _ hok _ h; exact ⟨by simpa [okST] using hok, h⟩
  | take i r ih =>
    intro listed a w hd hok hS h
    have hS' : S w := hS.resolve_left (by simp [Sch.takes])
    obtain ⟨o, v, ho, hy, h'⟩ := h
    simp only [okST, Bool.and_eq_true] at hok
    have h1 := ih (listed.setIfInBounds i true) (a.put o.dst v) w (hd.set (by simpa using hok.1.2)) hok.2 (.inr hS') h'
    exact wpAnyT_first (by simpa using hok.1.1.1) ho (Region.noSelect_spec hs) (hQ _ _) _ listed a w (Region.free_spec ho hok.1.1.2) hd (by simpa using hok.1.2) hy hS' h1
  | step i r ih =>
    intro listed a w hd hok hS h
    simp only [okST, Bool.and_eq_true, beq_iff_eq] at hok
    refine ⟨fun h0 => (by rw [hok.1] at h0; cases h0), fun j hj => ?_⟩
    have hj0 := hj
    rw [hok.1] at hj
    have : j = i := by simpa using hj
    subst this
    exact wpOp_mono (fun a' w' h' => ⟨h'.1.imp And.right id, ih _ a' w' (hd.set hj0) hok.2 (h'.1.imp And.left id) h'.2⟩) h
  | fork i j r s ihr ihs =>
    intro listed a w hd hok hS h
    simp only [okST, Bool.and_eq_true, beq_iff_eq] at hok
    obtain ⟨⟨⟨h1, h2⟩, h5⟩, h6⟩ := hok
    refine ⟨fun h0 => (by rw [h1] at h0; cases h0), fun x hx => ?_⟩
    have hx0 := hx
    rw [h1] at hx
    have hx' : x = i ∨ x = j := by simpa using hx
    rcases hx' with rfl | rfl
    · exact wpOp_mono (fun a' w' h' => ⟨h'.1.imp And.right id, ihr _ a' w' (hd.set hx0) h5 (h'.1.imp And.left id) h'.2⟩) h.1
    · refine wpOp_mono (fun a' w' h' => ⟨h'.1.imp And.right id, ?_⟩) h.2
      have := ihs _ a' w' (hd.set hx0) h6 (h'.1.imp And.left id) h'.2
      rwa [← h2] at this
def okSchT (ops : Array Oper) (M : Sch) : Bool := Region.noSelect ops && okST ops M.takes (Array.replicate ops.size false) M && (M.len == ops.size)
theorem wp_region_scht {id : Nat} {a : Act} {w : World} (S : World → Prop) (M : Sch) (hm : P.follows .mixedOrders = true) (hok : okSchT ops M = true) (hS : S w.drew)
    (h : AlongT P ops (NoPanic Q) S M.takes M a w.drew) : (Code.region id ops true).wp P Q a w := by
  simp only [okSchT, Bool.and_eq_true, beq_iff_eq] at hok
  refine wp_region_noPanic (wp_region_any hm (wpAny_of_T (S := S) (F0 := M.takes) _ _ _ _ ?_))
  have key := wpAnyT_along (P := P) (S := S) (F0 := M.takes) (Q := NoPanic Q) hok.1.1 (fun _ _ _ _ _ h => h) M _ a w.drew (Down.start _) hok.1.2 (.inr hS) h
  rw [hok.2] at key
  exact key
theorem AlongT.take {i : Nat} {r : Sch} {o : Oper} {v : Value} {a : Act} {w : World} (ho : ops[i]? = some o) (hw : Region.wanted o (yielded ops a.tmps) = true)
    (hv : ∀ w, S w → (execOp a.eval o).run P w = .ok (.value v) w) (h : AlongT P ops Q S F0 r (a.put o.dst v) w) : AlongT P ops Q S F0 (.take i r) a w := ⟨o, v, ho, .inl ⟨hw, hv⟩, h⟩
theorem AlongT.pass {i : Nat} {r : Sch} {o : Oper} {a : Act} {w : World} (ho : ops[i]? = some o) (hw : Region.wanted o (yielded ops a.tmps) = false)
    (h : AlongT P ops Q S F0 r (a.put o.dst undef) w) : AlongT P ops Q S F0 (.take i r) a w := ⟨o, undef, ho, .inr ⟨hw, rfl⟩, h⟩
theorem AlongT.step {i : Nat} {r : Sch} {o : Oper} {a : Act} {w : World} (ho : ops[i]? = some o) (hw : Region.wanted o (yielded ops a.tmps) = true)
    (h : ∀ K : Act → World → Prop, (∀ a w, S w → AlongT P ops Q S F0 r a w → K a w) → o.wp P a w K Q) : AlongT P ops Q S F0 (.step i r) a w := by
  show wpOp P ops Q i _ a w
  unfold wpOp
  simp only [ho, hw, if_true]
  exact .inl (h _ (fun a w h1 h2 => ⟨.inr h1, h2⟩))
theorem AlongT.last {i : Nat} {r : Sch} {o : Oper} {a : Act} {w : World} (hc : waitsT F0 ops i = true) (hr : r.takes = []) (ho : ops[i]? = some o) (hw : Region.wanted o (yielded ops a.tmps) = true)
    (h : ∀ K : Act → World → Prop, (∀ a w, AlongT P ops Q S F0 r a w → K a w) → o.wp P a w K Q) : AlongT P ops Q S F0 (.step i r) a w := by
  show wpOp P ops Q i _ a w
  unfold wpOp
  simp only [ho, hw, if_true]
  exact .inl (h _ (fun a w h1 => ⟨.inl ⟨hr, hc⟩, h1⟩))
theorem AlongT.skip {i : Nat} {r : Sch} {o : Oper} {a : Act} {w : World} (ho : ops[i]? = some o) (hw : Region.wanted o (yielded ops a.tmps) = false) (hS : S w)
    (h : AlongT P ops Q S F0 r (a.put o.dst undef) w) : AlongT P ops Q S F0 (.step i r) a w := by
  show wpOp P ops Q i _ a w
  unfold wpOp
  simp only [ho, hw]
  exact ⟨.inr hS, h⟩
theorem AlongT.fork {i j : Nat} {r s : Sch} {a : Act} {w : World} (h1 : AlongT P ops Q S F0 (.step i r) a w) (h2 : AlongT P ops Q S F0 (.step j s) a w) : AlongT P ops Q S F0 (.fork i j r s) a w := ⟨h1, h2⟩
theorem AlongT.done {a : Act} {w : World} (h : Q .normal a w) : AlongT P ops (NoPanic Q) S F0 .done a w := h
end
end Go.Proofs.Ytcbabfndfikejaa
/- What stays of the table while the closure writes the node that it makes. No condition. -/
namespace Go.Proofs.Ytcbabfndfikejaa
open Go.RowKit
set_option linter.unusedSimpArgs false
theorem ZMem.drew {w : World} {X : Nat → Prop} {B gk ga gt m : Nat} {v : Value} {K : List Addr} {ms : List Nd} (h : ZMem w X B gk ga gt m v K ms) : ZMem w.drew X B gk ga gt m v K ms := ⟨h.hk, h.ha, h.ht, h.tbl, h.map⟩
theorem own_stay {w w' : World} {base n : Nat} {v : Value} {xs : List Value} (h : w.ownsRow base 3 1 v n xs) (hs : Stay w w') : w'.ownsRow base 3 1 v n xs := by
  refine ⟨h.1, ?_⟩
  rcases h.2 with h | ⟨g, cap, cur, hv, hb, hg, hr⟩
  · exact .inl h
  · exact .inr ⟨g, cap, cur, hv, hb, hs.2 _ _ _ (.inr (.inr rfl)) hg, hr⟩
theorem own3_at {w : World} {base n : Nat} {v : Value} {xs : List Value} (h : w.ownsRow base 3 1 v n xs) {y : Nat} (hy : v.ownBlock = some y) : (∃ cs, w.heap[y]? = some (.cells cs 3 (0, 0))) ∧ base ≤ y := by
  rcases h.2 with ⟨rfl, _⟩ | ⟨g, cap, cur, rfl, hb, hg, hr⟩
  · cases hy
  · cases hy
    exact ⟨⟨cur, hg⟩, hb⟩
/-- the table stays while rows of numbers are written -/
theorem ZMem.move3 {w w' : World} {X X' Y : Nat → Prop} {B gk ga gt m : Nat} {v : Value} {K : List Addr} {ms : List Nd} (h : ZMem w X B gk ga gt m v K ms) (hch : Chg Y w w') (hm : Move X X' w w')
    (hY : ∀ y, Y y → y < w.heap.size → ∃ cs, w.heap[y]? = some (.cells cs 3 (0, 0))) : ZMem w' X' B gk ga gt m v K ms := by
  have no : ∀ {y : Nat} {o : Obj}, w.heap[y]? = some o → (∀ cs, o ≠ .cells cs 3 (0, 0)) → ¬ Y y := fun hg ho hy => by
    obtain ⟨cs, hcs⟩ := hY _ hy (Array.getElem?_eq_some_iff.1 hg).1
    rw [hg] at hcs
    cases hcs
    exact ho cs rfl
  refine ⟨hch.heap h.hk (no h.hk (fun cs e => by injection e with _ e; cases e)), hch.heap h.ha (no h.ha (fun cs e => by injection e with _ e; cases e)), hch.heap h.ht (no h.ht (fun cs e => by injection e with _ e; cases e)), ?_, ?_⟩
  · refine h.tbl.move hm (fun g hg => ?_)
    obtain ⟨xs, ho, _⟩ := h.tbl
    rcases ho.2 with ⟨rfl, _⟩ | ⟨g', cap, cur, rfl, _, hh, _⟩
    · cases hg
    · cases hg
      rw [hh]
      exact hch.heap hh (no hh (fun cs e => by injection e with _ e; cases e))
  · obtain ⟨es, clock, hmm, hf⟩ := h.map
    exact ⟨es, clock, hch.heap hmm (no hmm (fun cs e => by cases e)), hf⟩
/-- the table stays while a node that is being made is written -/
theorem ZMem.setN {w : World} {X : Nat → Prop} {B gk ga gt m gn : Nat} {v : Value} {K : List Addr} {ms : List Nd} {cs : Array Value} (h : ZMem w X B gk ga gt m v K ms) (hn : w.heap[gn]? = some (.cells cs 76 (0, 0))) (hv : v.ownBlock ≠ some gn) (i : Nat) (u : Value) :
    ZMem (w.setCell ⟨gn, i, none⟩ u) X B gk ga gt m v K ms ∧ Stay w (w.setCell ⟨gn, i, none⟩ u) ∧ (w.setCell ⟨gn, i, none⟩ u).heap[gn]? = some (.cells (cs.setIfInBounds i u) 76 (0, 0)) := by
  have far : ∀ {y : Nat}, y ≠ gn → (w.setCell ⟨gn, i, none⟩ u).heap[y]? = w.heap[y]? := fun {y} hy => Below.heap_setCell w ⟨gn, i, none⟩ u y hy
  have ne : ∀ {y : Nat} {o : Obj}, w.heap[y]? = some o → (∀ cs, o ≠ .cells cs 76 (0, 0)) → y ≠ gn := fun hg ho e => by
    subst e
    rw [hn] at hg
    cases hg
    exact ho cs rfl
  have hst : Stay w (w.setCell ⟨gn, i, none⟩ u) := ⟨by simp, fun g cs' e he hg => by
    rw [far (ne hg (fun c e' => by injection e' with _ e'; subst e'; rcases he with he | he | he <;> cases he))]
    exact hg⟩
  refine ⟨⟨?_, ?_, ?_, ?_, ?_⟩, hst, Blk.set_ hn i u⟩
  · rw [far (ne h.hk (fun c e => by injection e with _ e; cases e))]; exact h.hk
  · rw [far (ne h.ha (fun c e => by injection e with _ e; cases e))]; exact h.ha
  · rw [far (ne h.ht (fun c e => by injection e with _ e; cases e))]; exact h.ht
  · exact h.tbl.move (hst.move X) (fun g hg => far (fun e => hv (by rw [hg, e])))
  · obtain ⟨es, clock, hmm, hf⟩ := h.map
    exact ⟨es, clock, by rw [far (ne hmm (fun c e => by cases e))]; exact hmm, hf⟩
/-- what is in use: the rows of a node that is being made, too -/
def Use (X : Nat → Prop) (P T : Value) : Nat → Prop := fun y => X y ∨ P.ownBlock = some y ∨ T.ownBlock = some y
/-- one of the rows grows -/
theorem use_move {X : Nat → Prop} {P P' T : Value} {w w' : World} (hg : w.grownBy w' P.ownBlock) (hob : P'.ownBlock = P.ownBlock ∨ P'.ownBlock = some w.heap.size) : Move (Use X P T) (Use X P' T) w w' := by
  intro g cs e _ hx hgc
  have hlt := (Array.getElem?_eq_some_iff.1 hgc).1
  refine ⟨by rw [hg.block g hlt (fun h => hx (.inr (.inl h.symm)))]; exact hgc, ?_⟩
  rintro (h | h | h)
  · exact hx (.inl h)
  · rcases hob with h' | h'
    · rw [h'] at h; exact hx (.inr (.inl h))
    · rw [h'] at h; cases h; omega
  · exact hx (.inr (.inr h))
theorem use_swap {X : Nat → Prop} {P T : Value} (y : Nat) (h : Use X T P y) : Use X P T y := by
  rcases h with h | h | h
  · exact .inl h
  · exact .inr (.inr h)
  · exact .inr (.inl h)
theorem use_move' {X : Nat → Prop} {P T T' : Value} {w w' : World} (hg : w.grownBy w' T.ownBlock) (hob : T'.ownBlock = T.ownBlock ∨ T'.ownBlock = some w.heap.size) : Move (Use X P T) (Use X P T') w w' := by
  intro g cs e he hx hgc
  have := use_move (X := X) (T := P) hg hob g cs e he (fun h => hx (use_swap g h)) hgc
  exact ⟨this.1, fun h => this.2 (use_swap g h)⟩
def LInv (w0 : World) (S : List Addr) (X : Nat → Prop) (B gk ga gt m : Nat) (v : Value) (K : List Addr) (ms : List Nd) (qs : List Addr) (f : Tops) (w wr : World) (j : Nat) : Prop := ∃ (P T v' : Value) (K' : List Addr) (ms' : List Nd) (ps : List Int),
  ZMem wr (Use X P T) B gk ga gt m v' K' ms' ∧ ZP w0 S K' ms' ∧ (∃ E, K' = K ++ E) ∧ (∃ F, ms' = ms ++ F) ∧
  wr.heap[w.heap.size]? = some (.cells #[P, T] 76 (0, 0)) ∧ wr.ownsRow (w.heap.size + 1) 3 1 P j (ints ps) ∧ wr.ownsRow (w.heap.size + 1) 3 1 T j (ints (f.sts.take j)) ∧
  (∀ i, i < j → ∃ (x : Nat) (q : Addr), ps[i]? = some (x : Int) ∧ K'[x]? = some q ∧ qs[i]? = some q) ∧ (P.ownBlock = none ∨ P.ownBlock ≠ T.ownBlock) ∧
  (∀ q ∈ K', q ∈ K ∨ ∃ k' f', Rep w0 NoX q k' f' ∧ f'.size < f.size) ∧ Chg (Exc gt m v) w wr ∧ (v'.ownBlock = v.ownBlock ∨ ∀ y, v'.ownBlock = some y → w.heap.size ≤ y) ∧ v'.ownBlock ≠ some w.heap.size
/-- behind a round: the rows have grown, the node is written -/
theorem linv_step {S : List Addr} {X : Nat → Prop} {B gk ga gt m : Nat} {v : Value} {K : List Addr} {ms : List Nd} {qs : List Addr} {f : Tops} {w0 w w6 w8 w10 : World} {j x : Nat} {s : Int} {q : Addr} {P T P8 T10 v6 : Value} {K6 : List Addr} {ms6 : List Nd} {ps : List Int}
    (hM : ZMem w6 (Use X P T) B gk ga gt m v6 K6 ms6) (hP : ZP w0 S K6 ms6) (hE : ∃ E, K6 = K ++ E) (hF : ∃ F, ms6 = ms ++ F)
    (hn : w6.heap[w.heap.size]? = some (.cells #[P, T] 76 (0, 0))) (hoP : w6.ownsRow (w.heap.size + 1) 3 1 P j (ints ps)) (hoT : w6.ownsRow (w.heap.size + 1) 3 1 T j (ints (f.sts.take j)))
    (hps : ∀ i, i < j → ∃ (x : Nat) (q : Addr), ps[i]? = some (x : Int) ∧ K6[x]? = some q ∧ qs[i]? = some q) (hPT : P.ownBlock = none ∨ P.ownBlock ≠ T.ownBlock)
    (hq : ∀ q ∈ K6, q ∈ K ∨ ∃ k' f', Rep w0 NoX q k' f' ∧ f'.size < f.size) (hch : Chg (Exc gt m v) w w6) (hv : v6.ownBlock = v.ownBlock ∨ ∀ y, v6.ownBlock = some y → w.heap.size ≤ y) (hvn : v6.ownBlock ≠ some w.heap.size)
    (hx : K6[x]? = some q) (hqj : qs[j]? = some q) (hs : f.sts[j]? = some s) (hwl : w.heap.size < w6.heap.size)
    (hP8 : w8.ownsRow (w.heap.size + 1) 3 1 P8 (j + 1) (ints ps ++ [.int .i64 (x : Int)])) (hg8 : (w6.alloc (.cells #[.int .i64 (x : Int)] 3)).grownBy w8 P.ownBlock) (hob8 : P8.ownBlock = P.ownBlock ∨ P8.ownBlock = some (w6.heap.size + 1))
    (hT10 : w10.ownsRow (w.heap.size + 1) 3 1 T10 (j + 1) (ints (f.sts.take j) ++ [.int .i64 s])) (hg10 : (w8.alloc (.cells #[.int .i64 s] 3)).grownBy w10 T.ownBlock) (hob10 : T10.ownBlock = T.ownBlock ∨ T10.ownBlock = some (w8.heap.size + 1)) :
    LInv w0 S X B gk ga gt m v K ms qs f w ((w10.setCell ⟨w.heap.size, 0, none⟩ P8).setCell ⟨w.heap.size, 1, none⟩ T10) (j + 1) := by
  have hpsl : ps.length = j := by have := hoP.1; simpa [ints] using this
  have s6a : w6.heap.size + 1 = (w6.alloc (.cells #[.int .i64 (x : Int)] 3)).heap.size := by simp
  have s8a : w8.heap.size + 1 = (w8.alloc (.cells #[.int .i64 s] 3)).heap.size := by simp
  have s8 := hg8.size
  have s10 := hg10.size
  rw [← s6a] at s8
  rw [← s8a] at s10
  -- the first row
  have hM6a : ZMem (w6.alloc (.cells #[.int .i64 (x : Int)] 3)) (Use X P T) B gk ga gt m v6 K6 ms6 := hM.move3 (Y := NoX) (Chg.of_below (below_alloc' (Below.refl _ _) _)) ((Stay.refl w6).alloc _ |>.move _) (fun _ h => by cases h)
  have hn6a : (w6.alloc (.cells #[.int .i64 (x : Int)] 3)).heap[w.heap.size]? = some (.cells #[P, T] 76 (0, 0)) := (heap_old' hwl).trans hn
  have hoP6a := hoP.alloc (.cells #[.int .i64 (x : Int)] 3)
  have hoT6a := hoT.alloc (.cells #[.int .i64 (x : Int)] 3)
  have own3 : ∀ {W : World} {V : Value} {base nn : Nat} {xs : List Value}, W.ownsRow base 3 1 V nn xs → ∀ y, some y = V.ownBlock → y < W.heap.size → ∃ cs, W.heap[y]? = some (.cells cs 3 (0, 0)) := fun h y hy _ => (own3_at h hy.symm).1
  have hM8 : ZMem w8 (Use X P8 T) B gk ga gt m v6 K6 ms6 := hM6a.move3 (Chg.of_grown hg8) (use_move hg8 (by rw [← s6a]; exact hob8)) (own3 hoP6a)
  have hTP : T.ownBlock = none ∨ T.ownBlock ≠ P.ownBlock := by
    rcases hPT with h | h
    · cases hT : T.ownBlock with
      | none => exact .inl rfl
      | some y => right; rw [h]; exact fun e => by cases e
    · exact .inr (Ne.symm h)
  have hoT8 := World.ownsRow.kept hoT6a hg8 hTP
  have hn8 : w8.heap[w.heap.size]? = some (.cells #[P, T] 76 (0, 0)) := by
    rw [hg8.block _ (by omega) (fun h => by have := (own3_at hoP6a h.symm).2; omega)]
    exact hn6a
  have hch8 : Chg (Exc gt m v) w w8 := (hch.trans (Chg.of_below (X := NoX) (below_alloc' (Below.refl _ _) _)) (fun _ _ h => by cases h)).trans (Chg.of_grown hg8) (fun y hy h => by have := (own3_at hoP6a h.symm).2; omega)
  -- the second row
  have hM8a : ZMem (w8.alloc (.cells #[.int .i64 s] 3)) (Use X P8 T) B gk ga gt m v6 K6 ms6 := hM8.move3 (Y := NoX) (Chg.of_below (below_alloc' (Below.refl _ _) _)) ((Stay.refl w8).alloc _ |>.move _) (fun _ h => by cases h)
  have hoT8a := hoT8.alloc (.cells #[.int .i64 s] 3)
  have hP8a := hP8.alloc (.cells #[.int .i64 s] 3)
  have hP8T : P8.ownBlock = none ∨ P8.ownBlock ≠ T.ownBlock := by
    rcases hob8 with h | h
    · rw [h]; exact hPT
    · right
      rw [h]
      intro e
      have := (hoT6a.lt _ e.symm).2
      omega
  have hM10 : ZMem w10 (Use X P8 T10) B gk ga gt m v6 K6 ms6 := hM8a.move3 (Chg.of_grown hg10) (use_move' hg10 (by rw [← s8a]; exact hob10)) (own3 hoT8a)
  have hP10 := World.ownsRow.kept hP8a hg10 hP8T
  have hn10 : w10.heap[w.heap.size]? = some (.cells #[P, T] 76 (0, 0)) := by
    rw [hg10.block _ (by omega) (fun h => by have := (own3_at hoT8a h.symm).2; omega)]
    exact (heap_old' (by omega)).trans hn8
  have hch10 : Chg (Exc gt m v) w w10 := (hch8.trans (Chg.of_below (X := NoX) (below_alloc' (Below.refl _ _) _)) (fun _ _ h => by cases h)).trans (Chg.of_grown hg10) (fun y hy h => by have := (own3_at hoT8a h.symm).2; omega)
  have hP10T : P8.ownBlock = none ∨ P8.ownBlock ≠ T10.ownBlock := by
    rcases hob10 with h | h
    · rw [h]; exact hP8T
    · right
      rw [h]
      intro e
      have := (hP8.lt _ e).2
      omega
  obtain ⟨hMa, hsa, hna⟩ := hM10.setN hn10 hvn 0 P8
  obtain ⟨hMb, hsb, hnb⟩ := hMa.setN hna hvn 1 T10
  have hPf := own_stay (own_stay hP10 hsa) hsb
  have hTf := own_stay (own_stay hT10 hsa) hsb
  refine ⟨P8, T10, v6, K6, ms6, ps ++ [(x : Int)], hMb, hP, hE, hF, by simpa using hnb, by simpa [ints] using hPf, ?_, fun i hi => ?_, hP10T, hq, ?_, hv, hvn⟩
  · rw [take_snoc' _ _ _ hs]
    simpa [ints] using hTf
  · rcases Nat.lt_or_ge i j with h | h
    · obtain ⟨x', q', h1, h2, h3⟩ := hps i h
      exact ⟨x', q', by rw [List.getElem?_append_left (by omega)]; exact h1, h2, h3⟩
    · obtain rfl : i = j := by omega
      exact ⟨x, q, by rw [List.getElem?_append_right (by omega)]; simp [hpsl], hx, hqj⟩
  · have e1 : Chg (fun y => y = w.heap.size) w10 (w10.setCell ⟨w.heap.size, 0, none⟩ P8) := ⟨by first | rfl | simp, by first | rfl | simp, by first | rfl | simp, by simp, fun y _ hy => Below.heap_setCell w10 ⟨w.heap.size, 0, none⟩ P8 y hy⟩
    have e2 : Chg (fun y => y = w.heap.size) (w10.setCell ⟨w.heap.size, 0, none⟩ P8) ((w10.setCell ⟨w.heap.size, 0, none⟩ P8).setCell ⟨w.heap.size, 1, none⟩ T10) := ⟨by first | rfl | simp, by first | rfl | simp, by first | rfl | simp, by simp, fun y _ hy => Below.heap_setCell _ ⟨w.heap.size, 1, none⟩ T10 y hy⟩
    exact (hch10.trans e1 (fun y hy h => by omega)).trans e2 (fun y hy h => by omega)
end Go.Proofs.Ytcbabfndfikejaa
/- What the table says, and how it lies, when a node has been added. No condition. -/
namespace Go.Proofs.Ytcbabfndfikejaa
open Go.RowKit
set_option linter.unusedSimpArgs false
theorem srt_step : ∀ {f : Tops} {j : Nat} {s s' : Int}, f.srt → f.sts[j]? = some s → f.sts[j + 1]? = some s' → s < s'
  | .nil, _, _, _, _, h, _ => by simp [Tops.sts] at h
  | .cons x _ _ r, 0, s, s', hs, h, h' => by
    simp only [Tops.sts, List.getElem?_cons_zero, Option.some.injEq, List.getElem?_cons_succ] at h h'
    subst h
    exact hs.1 s' (List.mem_of_getElem? h')
  | .cons x _ _ r, j + 1, s, s', hs, h, h' => by
    simp only [Tops.sts, List.getElem?_cons_succ] at h h'
    exact srt_step (f := r) hs.2.2 h h'
theorem zp_snoc {w0 : World} {S K : List Addr} {ms : List Nd} {p : Addr} {k : Nat} {f : Tops} {ps : List Int} {qs : List Addr} (hP : ZP w0 S K ms) (hp : p ∉ K) (hpS : p ∈ S) (hS : S.length ≤ 1000) (hR : Rep w0 NoX p k f) (hsub : Subs w0 NoX f qs) (hsrt : f.srt) (hl : ps.length = f.len) (hf1 : f.len ≤ 1000)
    (hps : ∀ i, i < f.len → ∃ (x : Nat) (q : Addr), ps[i]? = some (x : Int) ∧ K[x]? = some q ∧ qs[i]? = some q) : ZP w0 S (K ++ [p]) (ms ++ [⟨ps, f.sts⟩]) := by
  have hlen := hP.len
  have hnd : (K ++ [p]).Nodup := by
    rw [List.nodup_append]
    exact ⟨hP.nd, by simp, fun a ha b hb => by simp at hb; subst hb; exact fun e => hp (e ▸ ha)⟩
  have hsubS : ∀ q ∈ K ++ [p], q ∈ S := fun q hq => by
    rcases List.mem_append.1 hq with h | h
    · exact hP.sub q h
    · simp at h; subst h; exact hpS
  have hgood : TG (ms ++ [⟨ps, f.sts⟩]) := hP.good.snoc ⟨by rw [hl, Tops.sts_length], by rw [Tops.sts_length]; exact hf1, fun j hj => by
    rw [Tops.sts_length] at hj
    obtain ⟨x, q, h1, h2, _⟩ := hps j hj
    exact ⟨x, h1, by rw [← hlen]; exact (List.getElem?_eq_some_iff.1 h2).1⟩, fun j s s' h h' => srt_step hsrt h h'⟩
  have hln : (ms ++ [(⟨ps, f.sts⟩ : Nd)]).length ≤ 1000 := by
    have := nodup_sub _ _ hnd hsubS
    simp only [List.length_append, List.length_singleton] at this ⊢
    omega
  refine ⟨by simp [hlen], hnd, hsubS, hgood, fun j q hj => ?_⟩
  rcases Nat.lt_or_ge j K.length with hlt | hge
  · rw [List.getElem?_append_left hlt] at hj
    obtain ⟨k', f', h1, h2⟩ := hP.rep j q hj
    exact ⟨k', f', h1, by rw [tr_append (by omega)]; exact h2⟩
  · rw [List.getElem?_append_right hge] at hj
    have hjl : j = K.length := by
      rcases Nat.eq_zero_or_pos (j - K.length) with h0 | h0
      · omega
      · rw [List.getElem?_eq_none (by simp; omega)] at hj; cases hj
    subst hjl
    simp at hj
    subst hj
    refine ⟨k, f, hR, ?_⟩
    have hat : (ms ++ [(⟨ps, f.sts⟩ : Nd)])[K.length]? = some ⟨ps, f.sts⟩ := by rw [hlen]; simp
    rw [tr_eq (hgood.tab hln) hat]
    simp only [Tops.sts_length, Prod.mk.injEq, true_and]
    refine mkTops_nrm f ps hl (fun i s k' a hia => ?_)
    have hil : i < f.len := by
      rw [← Tops.list_length]
      rw [← list_at] at hia
      exact (List.getElem?_eq_some_iff.1 hia).1
    obtain ⟨x, q, h1, h2, h3⟩ := hps i hil
    have hxl : x < ms.length := by rw [← hlen]; exact (List.getElem?_eq_some_iff.1 h2).1
    refine ⟨x, h1, ?_⟩
    show tr (ms ++ [⟨ps, f.sts⟩]) x = _
    rw [tr_append hxl]
    obtain ⟨k2, f2, hr2, ht2⟩ := hP.rep x q h2
    obtain ⟨s3, k3, a3, hat3, hr3⟩ := hsub.at_ _ _ _ _ h3
    rw [hia] at hat3
    cases hat3
    obtain ⟨_, rfl⟩ := hr2.unique hr3
    exact ht2
/-- the row of the table has grown, and is stored -/
theorem zmem_snoc {w wr w2 w4 : World} {X : Nat → Prop} {B gk ga gt m n : Nat} {v' v'' : Value} {K : List Addr} {ms : List Nd} {AP AT : Option Addr} {cP cT : Nat} {ps ss : List Int} {xs : List Value} {p : Addr}
    (hM : ZMem wr (Use X (.slice AP n cP) (.slice AT n cT)) B gk ga gt m v' K ms) (hxs : wr.ownsRow B 76 2 v' ms.length xs)
    (hxr : ∀ i nd, ms[i]? = some nd → ∃ A c A' c', xs[i * 2]? = some (.slice A nd.ps.length c) ∧ xs[i * 2 + 1]? = some (.slice A' nd.ss.length c') ∧ Row wr (Use X (.slice AP n cP) (.slice AT n cT)) 3 A nd.ps.length (ints nd.ps) ∧ Row wr (Use X (.slice AP n cP) (.slice AT n cT)) 3 A' nd.ss.length (ints nd.ss))
    (hX : ∀ y, X y → y < w.heap.size) (hoP : wr.ownsRow (w.heap.size + 1) 3 1 (.slice AP n cP) n (ints ps)) (hoT : wr.ownsRow (w.heap.size + 1) 3 1 (.slice AT n cT) n (ints ss)) (hpn : ps.length = n) (hsn : ss.length = n)
    (hown2 : w2.ownsRow B 76 2 v'' (ms.length + 1) (xs ++ [.slice AP n cP, .slice AT n cT])) (hg2 : (wr.alloc (.cells #[.slice AP n cP, .slice AT n cT] 76)).grownBy w2 v'.ownBlock)
    (hPM : PMap w4 m (KD (K ++ [p]))) (hg4 : (w2.setCell ⟨gt, 0, none⟩ v'').grownBy w4 (some m)) : ZMem w4 X B gk ga gt m v'' (K ++ [p]) (ms ++ [⟨ps, ss⟩]) := by
  obtain ⟨es, clock, hmm, hfit⟩ := hM.map
  have hal : ∀ {y : Nat} {o : Obj}, wr.heap[y]? = some o → (wr.alloc (.cells #[.slice AP n cP, .slice AT n cT] 76)).heap[y]? = some o := fun h => (heap_old' (Array.getElem?_eq_some_iff.1 h).1).trans h
  have nv : ∀ {y : Nat} {o : Obj}, wr.heap[y]? = some o → (∀ cs, o ≠ .cells cs 76 (0, 0)) → some y ≠ v'.ownBlock := fun hy ho e => by
    rcases hxs.2 with ⟨rfl, _⟩ | ⟨g, cap, cur, rfl, _, hg, _⟩
    · cases e
    · cases e
      rw [hg] at hy
      cases hy
      exact ho _ rfl
  have h2 : ∀ {y : Nat} {o : Obj}, wr.heap[y]? = some o → (∀ cs, o ≠ .cells cs 76 (0, 0)) → w2.heap[y]? = some o := fun hy ho => by
    rw [hg2.block _ (Array.getElem?_eq_some_iff.1 (hal hy)).1 (nv hy ho)]; exact hal hy
  have hgt2 := h2 hM.ht (fun cs e => by injection e with _ e; cases e)
  have hm2 := h2 hmm (fun cs e => by cases e)
  have h3 : ∀ {y : Nat} {o : Obj}, w2.heap[y]? = some o → (∀ cs, o ≠ .cells cs 59 (0, 0)) → (w2.setCell ⟨gt, 0, none⟩ v'').heap[y]? = some o := fun {y} {o} hy ho => by
    rw [Below.heap_setCell w2 ⟨gt, 0, none⟩ v'' y (fun e => by
      simp only at e
      subst e
      rw [hgt2] at hy
      cases hy
      exact ho _ rfl)]
    exact hy
  have hgt3 : (w2.setCell ⟨gt, 0, none⟩ v'').heap[gt]? = some (.cells #[v''] 59 (0, 0)) := by
    have := Blk.set_ hgt2 0 v''
    unfold Blk at this
    simpa using this
  have hm3 := h3 hm2 (fun cs e => by cases e)
  have h4 : ∀ {y : Nat} {o : Obj}, (w2.setCell ⟨gt, 0, none⟩ v'').heap[y]? = some o → (∀ es c, o ≠ .map es c) → w4.heap[y]? = some o := fun {y} {o} hy ho => by
    rw [hg4.block _ (Array.getElem?_eq_some_iff.1 hy).1 (fun e => by
      cases e
      rw [hm3] at hy
      cases hy
      exact ho _ _ rfl)]
    exact hy
  have c4 : ∀ {y : Nat} {cs : Array Value} {e : TypeId}, wr.heap[y]? = some (.cells cs e (0, 0)) → e ≠ 76 → e ≠ 59 → w4.heap[y]? = some (.cells cs e (0, 0)) := fun hy h76 h59 =>
    h4 (h3 (h2 hy (fun cs e => by injection e with _ e; exact h76 e)) (fun cs e => by injection e with _ e; exact h59 e)) (fun es c e => by cases e)
  have hsub : ∀ y, X y → Use X (.slice AP n cP) (.slice AT n cT) y := fun y hy => .inl hy
  have wk : ∀ {A : Option Addr} {k : Nat} {l : List Value}, Row wr (Use X (.slice AP n cP) (.slice AT n cT)) 3 A k l → Row w2 X 3 A k l := fun h => by
    have h1 := h.move (Move.of_sub wr hsub) (.inr (.inr rfl))
    exact h1.move (fun g cs e he hx hg => ⟨h2 hg (fun cs e' => by injection e' with _ e'; subst e'; rcases he with he | he | he <;> cases he), hx⟩) (.inr (.inr rfl))
  have nw : ∀ {A : Option Addr} {c : Nat} {l : List Int}, wr.ownsRow (w.heap.size + 1) 3 1 (.slice A n c) n (ints l) → Row w2 X 3 A n (ints l) := fun h => by
    have h1 : Row wr X 3 _ n _ := Row.of_own h (fun g hg hx => by have := (h.lt g hg).1; have := hX g hx; omega)
    exact h1.move (fun g cs e he hx hg => ⟨h2 hg (fun cs e' => by injection e' with _ e'; subst e'; rcases he with he | he | he <;> cases he), hx⟩) (.inr (.inr rfl))
  refine ⟨c4 hM.hk (by decide) (by decide), c4 hM.ha (by decide) (by decide), h4 hgt3 (fun es c e => by cases e), ?_, hPM⟩
  have hT2 : TblX w2 X B v'' (ms ++ [⟨ps, ss⟩]) := by
    have h0 := hxs.1
    refine TblX.snoc (w := w2) (A := AP) (A' := AT) (c := cP) (c' := cT) h0 (fun i nd hi => ?_) ?_ ?_ ?_ (Stay.refl w2 |>.move X)
    · obtain ⟨A, c, A', c', e1, e2, r1, r2⟩ := hxr i nd hi
      exact ⟨A, c, A', c', e1, e2, wk r1, wk r2⟩
    · simp only [hpn]; exact nw hoP
    · simp only [hsn]; exact nw hoT
    · simp only [hpn, hsn]; exact hown2
  refine hT2.move (fun g cs e he hx hg => ⟨?_, hx⟩) (fun g hg => ?_)
  · exact h4 (h3 hg (fun cs e' => by injection e' with _ e'; subst e'; rcases he with he | he | he <;> cases he)) (fun es c e => by cases e)
  · rcases hown2.2 with ⟨rfl, _⟩ | ⟨g', cap, cur, rfl, _, hh, _⟩
    · cases hg
    · cases hg
      rw [hh]
      exact h4 (h3 hh (fun cs e => by injection e with _ e; cases e)) (fun es c e => by cases e)
end Go.Proofs.Ytcbabfndfikejaa
