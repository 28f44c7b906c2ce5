/- Stores keyed by choices whose buckets hold pairs (JMap): how they lie in memory, and what a pair more keeps. Condition: the choices lie in memory. -/
import Derived.Test.YtcbabfndfikejaaQ2
import Derived.Test.YtcbabfndfikejaaPut
namespace Go.Proofs.Ytcbabfndfikejaa
open Go.RowKit
set_option linter.unusedSimpArgs false

/-- a pair: where it lies, its key (a known choice), where its value points -/
abbrev Ent := Addr × Kn × Addr
def enHash (h : Int) (x : Ent) : Bool := hashIs h x.2.1
def enIs (k : Nat) (f : Tops) (x : Ent) : Bool := treeIs k f x.2.1
def fstE (es : List Ent) (k : Nat) (f : Tops) : Option Addr := (es.find? (enIs k f)).map (·.2.2)
theorem findE_filter (es : List Ent) (k : Nat) (f : Tops) : (es.filter (enHash (hsh k f))).find? (enIs k f) = es.find? (enIs k f) := by
  induction es with
  | nil => rfl
  | cons a t ih =>
    by_cases h : enIs k f a = true
    · have h2 : enHash (hsh k f) a = true := by
        unfold enIs treeIs at h; unfold enHash hashIs
        have := of_decide_eq_true h
        rw [this]; exact decide_eq_true rfl
      rw [List.filter_cons_of_pos h2, List.find?_cons_of_pos h, List.find?_cons_of_pos h]
    · rw [List.find?_cons_of_neg h]
      by_cases h2 : enHash (hsh k f) a = true
      · rw [List.filter_cons_of_pos h2, List.find?_cons_of_neg h, ih]
      · rw [List.filter_cons_of_neg h2, ih]
theorem find_at' {α : Type} {l : List α} {P : α → Bool} {j : Nat} {y : α} (h : ∀ i, i < j → ∀ x, l[i]? = some x → P x = false) (hj : l[j]? = some y) (hy : P y = true) : l.find? P = some y := by
  induction l generalizing j with
  | nil => simp at hj
  | cons a t ih =>
    cases j with
    | zero => simp at hj; subst hj; exact List.find?_cons_of_pos hy
    | succ j =>
      have h0 := h 0 (by omega) a rfl
      rw [List.find?_cons_of_neg (by rw [h0]; decide)]
      exact ih (j := j) (fun i hi x hx => h (i + 1) (by omega) x (by simpa using hx)) (by simpa using hj)
theorem find_no' {α : Type} {l : List α} {P : α → Bool} (h : ∀ i, i < l.length → ∀ x, l[i]? = some x → P x = false) : l.find? P = none := by
  rw [List.find?_eq_none]
  intro x hx
  obtain ⟨i, hi⟩ := List.getElem?_of_mem hx
  rw [h i (List.getElem?_eq_some_iff.1 hi).1 x hi]; decide
theorem fstE_some {es : List Ent} {k : Nat} {f : Tops} {v : Addr} (h : fstE es k f = some v) : ∃ e p, (e, (p, k, f), v) ∈ es := by
  unfold fstE at h
  cases hf : es.find? (enIs k f) with
  | none => rw [hf] at h; cases h
  | some x =>
    rw [hf] at h
    have h1 := List.mem_of_find?_eq_some hf
    have h2 := List.find?_some hf
    obtain ⟨e, ⟨p, k', f'⟩, v'⟩ := x
    have h3 : (k', f') = (k, f) := of_decide_eq_true h2
    cases h3
    simp at h
    subst h
    exact ⟨e, p, h1⟩
theorem fstE_none {es : List Ent} {k : Nat} {f : Tops} (h : fstE es k f = none) : ∀ x ∈ es, x.2.1.2 ≠ (k, f) := by
  unfold fstE at h
  rw [Option.map_eq_none_iff, List.find?_eq_none] at h
  intro x hx e
  exact h x hx (decide_eq_true e)

/-! ### the buckets' rows, of any type -/
def EOwn (el : TypeId) (w : World) (B : Nat) (T : List Bk) : Prop := ∀ x ∈ T, w.ownsRow B el 1 x.2.1 x.2.2.length (ptrs x.2.2) ∧ 0 < x.2.2.length
theorem bval_ownE {el : TypeId} {w : World} {B : Nat} : ∀ {T : List Bk} (h : Int), EOwn el w B T → w.ownsRow B el 1 (bval T h) (bkt T h).length (ptrs (bkt T h))
  | [], _, _ => World.ownsRow_nil _ _ _ _
  | (x, v, l) :: t, h, ha => by
    unfold bval bkt
    split
    · exact (ha _ (List.mem_cons_self ..)).1
    · exact bval_ownE h (fun x hx => ha x (List.mem_cons_of_mem _ hx))
theorem bput_ownE {el : TypeId} {w w4 : World} {B : Nat} {h : Int} {v3 : Value} {l3 : List Addr} (h3 : w4.ownsRow B el 1 v3 l3.length (ptrs l3)) (hl3 : 0 < l3.length) : ∀ {T : List Bk}, EOwn el w B T → BApart T →
    (∀ (v : Value) n xs, w.ownsRow B el 1 v n xs → 0 < n → v.ownBlock ≠ (bval T h).ownBlock → w4.ownsRow B el 1 v n xs) →
    (v3.ownBlock = (bval T h).ownBlock ∨ ∃ z, v3.ownBlock = some z ∧ w.heap.size ≤ z) → EOwn el w4 B (bput T h v3 l3) ∧ BApart (bput T h v3 l3)
  | [], _, _, _, _ => by
    refine ⟨fun x hx => ?_, ?_⟩
    · simp [bput] at hx; subst hx; exact ⟨h3, hl3⟩
    · exact List.pairwise_singleton ..
  | (x, u, l0) :: t, ho, ha, hk, hat => by
    have ho1 := ho _ (List.mem_cons_self ..)
    have ho2 : EOwn el w B t := fun y hy => ho y (List.mem_cons_of_mem _ hy)
    obtain ⟨ha1, ha2⟩ := List.pairwise_cons.1 ha
    have hne3 := own_pos h3 hl3
    have old : ∀ z, w.heap.size ≤ z → ∀ y ∈ (x, u, l0) :: t, y.2.1.ownBlock ≠ some z := by
      intro z hz y hy e
      have := ((ho y hy).1.lt _ e).2
      omega
    unfold bput
    by_cases hx : h = x
    · rw [if_pos hx]
      have hb : bval ((x, u, l0) :: t) h = u := by unfold bval; rw [if_pos hx]
      rw [hb] at hk hat
      refine ⟨fun y hy => ?_, ?_⟩
      · rcases List.mem_cons.1 hy with rfl | hy
        · exact ⟨h3, hl3⟩
        · have := ho2 y hy
          exact ⟨hk _ _ _ this.1 this.2 (fun e => ha1 y hy e.symm), this.2⟩
      · refine List.pairwise_cons.2 ⟨fun y hy => ?_, ha2⟩
        simp only
        rcases hat with e | ⟨z, e, hz⟩
        · rw [e]; exact ha1 y hy
        · rw [e]; exact fun e' => old z hz y (List.mem_cons_of_mem _ hy) e'.symm
    · rw [if_neg hx]
      have hb : bval ((x, u, l0) :: t) h = bval t h := by simp [bval, hx]
      rw [hb] at hk hat
      have ih := bput_ownE h3 hl3 ho2 ha2 hk hat
      have hu : u.ownBlock ≠ (bval t h).ownBlock := by
        rcases bval_mem t h with e | ⟨y, hy, e⟩
        · rw [e]; exact own_pos ho1.1 ho1.2
        · rw [e]; exact ha1 y hy
      refine ⟨fun y hy => ?_, ?_⟩
      · rcases List.mem_cons.1 hy with rfl | hy
        · exact ⟨hk _ _ _ ho1.1 ho1.2 hu, ho1.2⟩
        · exact ih.1 y hy
      · refine List.pairwise_cons.2 ⟨fun y hy => ?_, ih.2⟩
        simp only
        have mem : ∀ {T : List Bk}, y ∈ bput T h v3 l3 → y ∈ T ∨ y.2.1 = v3 := by
          intro T
          induction T with
          | nil => intro hy; simp [bput] at hy; subst hy; exact .inr rfl
          | cons z T ihT =>
            obtain ⟨z1, z2, z3⟩ := z
            intro hy
            unfold bput at hy
            split at hy
            · rcases List.mem_cons.1 hy with rfl | hy
              · exact .inr rfl
              · exact .inl (List.mem_cons_of_mem _ hy)
            · rcases List.mem_cons.1 hy with rfl | hy
              · exact .inl (List.mem_cons_self ..)
              · rcases ihT hy with h1 | h1
                · exact .inl (List.mem_cons_of_mem _ h1)
                · exact .inr h1
        rcases mem hy with hy | hy
        · exact ha1 y hy
        · rw [hy]
          rcases hat with e | ⟨z, e, hz⟩
          · rw [e]; exact hu
          · rw [e]; exact old z hz _ (List.mem_cons_self ..)

/-! ### a store of pairs -/
def EAt (en : TypeId) (B : Nat) (w : World) (x : Ent) : Prop := ∃ g, x.1 = ⟨g, 0, none⟩ ∧ B ≤ g ∧ w.heap[g]? = some (.cells #[.pointer (some x.2.1.1), .pointer (some x.2.2)] en (0, 0))
/-- The store lies at s, its map at m. -/
def JM (st el en : TypeId) (B : Nat) (w : World) (s m : Nat) (es : List Ent) : Prop :=
  ∃ (c : Addr) (len : Int) (T : List Bk),
    w.heap[s]? = some (.cells #[.map (some m), .int .i64 len, .iface 104 (.pointer (some c))] st (0, 0)) ∧ B ≤ s ∧ B ≤ m ∧ 0 ≤ len ∧ len ≤ es.length ∧
    MapAt w m (T.map fun x => (x.1, x.2.1)) ∧ EOwn el w B T ∧ BApart T ∧ (∀ h, bkt T h = (es.filter (enHash h)).map (·.1)) ∧ ∀ x ∈ es, EAt en B w x
/-- the blocks a store writes to -/
def JX (el : TypeId) (w : World) (s m : Nat) (j : Nat) : Prop := j = s ∨ j = m ∨ ∃ cs, w.heap[j]? = some (.cells cs el (0, 0))
theorem own_chg {X : Nat → Prop} {w w' : World} {B n : Nat} {e : TypeId} {size : Nat} {v : Value} {xs : List Value} (h : w.ownsRow B e size v n xs) (hc : Chg X w w') (hX : ∀ g cs, w.heap[g]? = some (.cells cs e (0, 0)) → ¬ X g) : w'.ownsRow B e size v n xs := by
  refine ⟨h.1, ?_⟩
  rcases h.2 with hn | ⟨g, cap, cur, rfl, hb, hgg, rest⟩
  · exact .inl hn
  · refine .inr ⟨g, cap, cur, rfl, hb, ?_, rest⟩
    rw [hc.block g (Array.getElem?_eq_some_iff.1 hgg).1 (hX g cur hgg)]
    exact hgg
theorem MapAt.chg {X : Nat → Prop} {w w' : World} {m : Nat} {D : Prs} (h : MapAt w m D) (hc : Chg X w w') (hX : ¬ X m) : MapAt w' m D := by
  obtain ⟨es, c, h1, h2⟩ := h
  exact ⟨es, c, hc.heap h1 hX, h2⟩
theorem JM.chg {st el en : TypeId} {B : Nat} {w w' : World} {s m : Nat} {es : List Ent} {X : Nat → Prop} (h : JM st el en B w s m es) (hc : Chg X w w') (hs : ¬ X s) (hm : ¬ X m) (hX : ∀ g cs e, w.heap[g]? = some (.cells cs e (0, 0)) → e = el ∨ e = en → ¬ X g) : JM st el en B w' s m es := by
  obtain ⟨c, len, T, h1, h2, h3, h4, h5, h6, h7, h8, h9, h10⟩ := h
  refine ⟨c, len, T, hc.heap h1 hs, h2, h3, h4, h5, h6.chg hc hm, fun x hx => ⟨own_chg (h7 x hx).1 hc (fun g cs hg => hX g cs el hg (.inl rfl)), (h7 x hx).2⟩, h8, h9, fun x hx => ?_⟩
  obtain ⟨g, e1, e2, e3⟩ := h10 x hx
  exact ⟨g, e1, e2, hc.heap e3 (hX g _ en e3 (.inr rfl))⟩
theorem JM.dr {st el en : TypeId} {B : Nat} {w w' : World} {s m : Nat} {es : List Ent} (h : JM st el en B w s m es) (hd : Dr w w') : JM st el en B w' s m es := by obtain ⟨n, rfl⟩ := hd; exact h
theorem JM.below {st el en : TypeId} {B : Nat} {w w' : World} {s m : Nat} {es : List Ent} (h : JM st el en B w s m es) (hb : Below w.heap.size w w') : JM st el en B w' s m es := by
  have hc := Chg.of_below (X := fun _ => False) hb
  exact h.chg hc (fun h => h) (fun h => h) (fun _ _ _ _ _ h => h)
theorem JX.chg {el : TypeId} {w : World} {s m : Nat} (g : Nat) (cs : Array Value) (e : TypeId) (h : w.heap[g]? = some (.cells cs e (0, 0))) (he : e ≠ el) (hs : g ≠ s) {cl : Nat} {es : Array MapEntry} (hm : w.heap[m]? = some (.map es cl)) : ¬ JX el w s m g := by
  rintro (rfl | rfl | ⟨cs', h'⟩)
  · exact hs rfl
  · rw [h] at hm; cases hm
  · rw [h] at h'; cases h'; exact he rfl
theorem JM.mapBlock {st el en : TypeId} {B : Nat} {w : World} {s m : Nat} {es : List Ent} (h : JM st el en B w s m es) : ∃ es' cl, w.heap[m]? = some (.map es' cl) := by
  obtain ⟨c, len, T, h1, h2, h3, h4, h5, ⟨es', cl, h6, _⟩, _⟩ := h
  exact ⟨es', cl, h6⟩
/-- Choices stay, whatever a store of pairs does. -/
theorem JM.stay {st el en : TypeId} {B : Nat} {w w' : World} {s m : Nat} {es : List Ent} (h : JM st el en B w s m es) (hst : ¬ ctxTy st) (hel : ¬ ctxTy el) (hc : Chg (JX el w s m) w w') : Stay w w' := by
  obtain ⟨es', cl, hm⟩ := h.mapBlock
  obtain ⟨c, len, T, h1, _⟩ := h
  refine hc.stay (fun g cs e hg he => JX.chg g cs e hg (fun e' => hel (e' ▸ he)) (fun e' => ?_) hm)
  subst e'
  rw [hg] at h1; cases h1
  exact hst he
/-- a pair more -/
theorem jm_done {st el en : TypeId} {B : Nat} {w wr w2 w3 w4 : World} {s m n a : Nat} {c : Addr} {len : Int} {T : List Bk} {es : List Ent} {p v : Addr} {k : Nat} {f : Tops} {H : Int} {A3 : Option Addr} {c3 : Nat}
    (hne1 : el ≠ st) (hne2 : en ≠ st) (hne3 : el ≠ en) (hH : hsh k f = H) (hd : Dr w wr) (hBs : B ≤ s) (hBm : B ≤ m) (h0 : 0 ≤ len) (h1 : len ≤ es.length) (hown : EOwn el wr B T) (hap : BApart T) (hbk : ∀ h, bkt T h = (es.filter (enHash h)).map (·.1))
    (hes : ∀ x ∈ es, EAt en B wr x)
    (hbo : wr.ownsRow B el 1 (bval T H) n (ptrs (bkt T H))) (hlen : (bkt T H).length = n) (hsl : s < wr.heap.size)
    (hb2 : Below wr.heap.size wr w2) (ha : w2.heap[a]? = some (.cells #[.pointer (some p), .pointer (some v)] en (0, 0))) (haw : wr.heap.size ≤ a)
    (hgr : w2.grownBy w3 (bval T H).ownBlock) (hat : (Value.slice A3 (n + 1) c3).ownBlock = (bval T H).ownBlock ∨ ∃ z, (Value.slice A3 (n + 1) c3).ownBlock = some z ∧ wr.heap.size ≤ z)
    (hown3 : w3.ownsRow B el 1 (.slice A3 (n + 1) c3) (n + 1) (ptrs (bkt T H) ++ [.pointer (some ⟨a, 0, none⟩)])) (hm4 : MapAt w4 m (Prs.put (T.map fun x => (x.1, x.2.1)) H (.slice A3 (n + 1) c3))) (hg4 : w3.grownBy w4 (some m))
    (hs4 : w4.heap[s]? = some (.cells #[.map (some m), .int .i64 len, .iface 104 (.pointer (some c))] st (0, 0))) (hm3 : MapAt w3 m (T.map fun x => (x.1, x.2.1))) (hsm : s ≠ m) :
    JM st el en B (w4.setCell ⟨s, 1, none⟩ (.int .i64 (len + 1))) s m (es ++ [(⟨a, 0, none⟩, (p, k, f), v)]) ∧ Below B w (w4.setCell ⟨s, 1, none⟩ (.int .i64 (len + 1))) ∧ Chg (JX el w s m) w (w4.setCell ⟨s, 1, none⟩ (.int .i64 (len + 1))) := by
  have hset : w4.grownBy (w4.setCell ⟨s, 1, none⟩ (.int .i64 (len + 1))) (some s) := ⟨rfl, rfl, rfl, by simp [World.setCell], fun j _ hj => Below.heap_setCell _ _ _ _ (fun e => hj (by rw [e]))⟩
  have keep4 : ∀ (v : Value) n xs, w3.ownsRow B el 1 v n xs → (w4.setCell ⟨s, 1, none⟩ (.int .i64 (len + 1))).ownsRow B el 1 v n xs := by
    intro v n xs h
    have a1 := h.kept hg4 (.inr (fun e => own_map_ne h hm3 e.symm))
    exact a1.kept hset (.inr (fun e => own_cells_ne a1 hs4 hne1 e.symm))
  have h3' : (w4.setCell ⟨s, 1, none⟩ (.int .i64 (len + 1))).ownsRow B el 1 (.slice A3 (n + 1) c3) (bkt T H ++ [(⟨a, 0, none⟩ : Addr)]).length (ptrs (bkt T H ++ [(⟨a, 0, none⟩ : Addr)])) := by
    have := keep4 _ _ _ hown3
    have e1 : (bkt T H ++ [(⟨a, 0, none⟩ : Addr)]).length = n + 1 := by simp [hlen]
    have e2 : ptrs (bkt T H ++ [(⟨a, 0, none⟩ : Addr)]) = ptrs (bkt T H) ++ [.pointer (some ⟨a, 0, none⟩)] := by simp [ptrs]
    rw [e1, e2]; exact this
  have key := bput_ownE (w := wr) (h := H) (l3 := bkt T H ++ [(⟨a, 0, none⟩ : Addr)]) h3' (by simp) hown hap (fun v n xs h hn hne => keep4 _ _ _ ((ownsRow_ext h hb2).kept hgr (.inr hne))) hat
  have hB0 : B ≤ wr.heap.size := by omega
  obtain ⟨me, mc, hmb, _⟩ := hm3
  have cells : ∀ (g : Nat) (cs : Array Value), w2.heap[g]? = some (Obj.cells cs en (0, 0)) → (w4.setCell ⟨s, 1, none⟩ (.int .i64 (len + 1))).heap[g]? = some (Obj.cells cs en (0, 0)) := by
    intro g cs hg
    have l2 := (Array.getElem?_eq_some_iff.1 hg).1
    have hne : some g ≠ (bval T H).ownBlock := by
      have ho2 := ownsRow_ext hbo hb2
      rcases ho2.2 with ⟨e, _⟩ | ⟨g', cap, cur, e, _, hh, _⟩
      · rw [e]; simp [Value.ownBlock]
      · rw [e]; intro e'
        have : g = g' := by simpa [Value.ownBlock] using e'
        subst this
        rw [hg] at hh; cases hh; exact hne3 rfl
    have e3 := (hgr.block g l2 hne).trans hg
    have hgm : g ≠ m := by rintro rfl; rw [e3] at hmb; cases hmb
    have e4 := (hg4.block g (Array.getElem?_eq_some_iff.1 e3).1 (fun e => hgm (Option.some.inj e))).trans e3
    have hgs : g ≠ s := by rintro rfl; rw [e4] at hs4; cases hs4; exact hne2 rfl
    exact (hset.block g (Array.getElem?_eq_some_iff.1 e4).1 (fun e => hgs (Option.some.inj e))).trans e4
  refine ⟨⟨c, len + 1, bput T H (.slice A3 (n + 1) c3) (bkt T H ++ [⟨a, 0, none⟩]), ?_, hBs, hBm, by omega, by simp; omega, ?_, key.1, key.2, ?_, ?_⟩, ?_, ?_⟩
  · rw [heap_setCell_same w4 s 1 _ _ _ hs4]; rfl
  · rw [bput_map]
    exact hm4.grown hset (fun e => hsm (Option.some.inj e).symm)
  · intro h
    rw [bput_bkt, List.filter_append, List.map_append]
    by_cases hh : h = H
    · rw [if_pos hh, hbk, hh]
      congr 1
      have : enHash H (⟨a, 0, none⟩, (p, k, f), v) = true := decide_eq_true hH
      simp [List.filter, this]
    · rw [if_neg hh, hbk]
      have : enHash h (⟨a, 0, none⟩, (p, k, f), v) = false := decide_eq_false (fun e => hh (by rw [← e, hH]))
      simp [List.filter, this]
  · intro x hx
    rcases List.mem_append.1 hx with hx | hx
    · obtain ⟨g, e1, e2, e3⟩ := hes x hx
      exact ⟨g, e1, e2, cells g _ ((hb2.block g (Array.getElem?_eq_some_iff.1 e3).1).trans e3)⟩
    · simp at hx; subst hx
      exact ⟨a, rfl, by omega, cells a _ ha⟩
  · have h1' : Below B w wr := hd.below.mono (by rw [← hd.heap]; exact hB0)
    have h2' : Below B wr w2 := hb2.mono hB0
    have hw : Below B w w2 := h1'.trans h2'
    have b3 : Below B w w3 := hw.grown hgr (Nat.le_trans hB0 hb2.size) (fun x hx => (hbo.lt x hx).1)
    have b4 : Below B w w4 := b3.grown hg4 (Nat.le_trans hB0 (Nat.le_trans hb2.size hgr.size)) (fun x hx => by cases hx; exact hBm)
    exact b4.setCell hBs _
  · have hh := hd.heap
    have hos : Below wr.heap.size wr wr := Below.refl _ _
    obtain ⟨dn, hdn⟩ := hd
    have hos1 : wr.os = w.os ∧ wr.tape = w.tape ∧ wr.output = w.output := by rw [hdn]; exact ⟨rfl, rfl, rfl⟩
    refine ⟨hset.os.trans (hg4.os.trans (hgr.os.trans (hb2.os.trans hos1.1))), hset.tape.trans (hg4.tape.trans (hgr.tape.trans (hb2.tape.trans hos1.2.1))), hset.output.trans (hg4.output.trans (hgr.output.trans (hb2.output.trans hos1.2.2))), ?_, ?_⟩
    · rw [← hh]; exact Nat.le_trans hb2.size (Nat.le_trans hgr.size (Nat.le_trans hg4.size hset.size))
    · intro j hj hx
      rw [← hh] at hj
      have hjs : j ≠ s := fun e => hx (.inl e)
      have hjm : j ≠ m := fun e => hx (.inr (.inl e))
      have hjr : some j ≠ (bval T H).ownBlock := by
        rcases hbo.2 with ⟨e, _⟩ | ⟨g', cap, cur, e, _, hq, _⟩
        · rw [e]; simp [Value.ownBlock]
        · rw [e]; intro e'
          have : j = g' := by simpa [Value.ownBlock] using e'
          subst this
          exact hx (.inr (.inr ⟨_, by rw [← hh]; exact hq⟩))
      have e2 := hb2.block j hj
      have e3 := hgr.block j (Nat.lt_of_lt_of_le hj hb2.size) hjr
      have e4 := hg4.block j (Nat.lt_of_lt_of_le hj (Nat.le_trans hb2.size hgr.size)) (fun e => hjm (Option.some.inj e))
      have e5 := hset.block j (Nat.lt_of_lt_of_le hj (Nat.le_trans hb2.size (Nat.le_trans hgr.size hg4.size))) (fun e => hjs (Option.some.inj e))
      rw [e5, e4, e3, e2, hh]
end Go.Proofs.Ytcbabfndfikejaa
