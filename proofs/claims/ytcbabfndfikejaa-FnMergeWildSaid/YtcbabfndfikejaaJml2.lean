/- Stores of pairs (JMap) with the blocks they lie in: several of them lie side by side. Condition: the choices lie in memory. -/
import Derived.Test.YtcbabfndfikejaaJml
namespace Go.Proofs.Ytcbabfndfikejaa
open Go.RowKit
set_option linter.unusedSimpArgs false

/-- The store lies at s, its map at m, all of it in the blocks F. -/
def JF (st el en : TypeId) (B : Nat) (w : World) (s m : Nat) (es : List Ent) (F : Nat → Prop) : Prop :=
  ∃ (c : Addr) (len : Int) (T : List Bk),
    w.heap[s]? = some (.cells #[.map (some m), .int .i64 len, .iface 104 (.pointer (some c))] st (0, 0)) ∧ B ≤ s ∧ B ≤ m ∧ 0 ≤ len ∧ len ≤ es.length ∧
    MapAt w m (T.map fun x => (x.1, x.2.1)) ∧ EOwn el w B T ∧ BApart T ∧ (∀ h, bkt T h = (es.filter (enHash h)).map (·.1)) ∧ (∀ x ∈ es, EAt en B w x) ∧
    (F s ∧ F m ∧ (∀ x ∈ T, ∀ g, x.2.1.ownBlock = some g → F g) ∧ (∀ x ∈ es, F x.1.block) ∧ ∀ g, F g → g < w.heap.size)
theorem JF.jm {st el en : TypeId} {B : Nat} {w : World} {s m : Nat} {es : List Ent} {F : Nat → Prop} (h : JF st el en B w s m es F) : JM st el en B w s m es := by
  obtain ⟨c, len, T, h1, h2, h3, h4, h5, h6, h7, h8, h9, h10, _⟩ := h
  exact ⟨c, len, T, h1, h2, h3, h4, h5, h6, h7, h8, h9, h10⟩
theorem JF.lt {st el en : TypeId} {B : Nat} {w : World} {s m : Nat} {es : List Ent} {F : Nat → Prop} (h : JF st el en B w s m es F) : ∀ g, F g → g < w.heap.size := by
  obtain ⟨c, len, T, h1, h2, h3, h4, h5, h6, h7, h8, h9, h10, _, _, _, _, h11⟩ := h
  exact h11
theorem JF.chg {st el en : TypeId} {B : Nat} {w w' : World} {s m : Nat} {es : List Ent} {F X : Nat → Prop} (h : JF st el en B w s m es F) (hc : Chg X w w') (hX : ∀ g, F g → ¬ X g) : JF st el en B w' s m es F := by
  obtain ⟨c, len, T, h1, h2, h3, h4, h5, h6, h7, h8, h9, h10, f1, f2, f3, f4, f5⟩ := h
  refine ⟨c, len, T, hc.heap h1 (hX _ f1), h2, h3, h4, h5, h6.chg hc (hX _ f2), fun x hx => ⟨?_, (h7 x hx).2⟩, h8, h9, fun x hx => ?_, f1, f2, f3, f4, fun g hg => Nat.lt_of_lt_of_le (f5 g hg) hc.size⟩
  · have hr := (h7 x hx).1
    refine ⟨hr.1, ?_⟩
    rcases hr.2 with hn | ⟨g, cap, cur, e, hb, hgg, rest⟩
    · exact .inl hn
    · refine .inr ⟨g, cap, cur, e, hb, ?_, rest⟩
      rw [hc.block g (Array.getElem?_eq_some_iff.1 hgg).1 (hX g (f3 x hx g (by rw [e]; rfl)))]
      exact hgg
  · obtain ⟨g, e1, e2, e3⟩ := h10 x hx
    exact ⟨g, e1, e2, hc.heap e3 (hX _ (by have := f4 x hx; rw [e1] at this; exact this))⟩
theorem JF.dr {st el en : TypeId} {B : Nat} {w w' : World} {s m : Nat} {es : List Ent} {F : Nat → Prop} (h : JF st el en B w s m es F) (hd : Dr w w') : JF st el en B w' s m es F := by obtain ⟨n, rfl⟩ := hd; exact h
theorem JF.below {st el en : TypeId} {B : Nat} {w w' : World} {s m : Nat} {es : List Ent} {F : Nat → Prop} (h : JF st el en B w s m es F) (hb : Below w.heap.size w w') : JF st el en B w' s m es F :=
  h.chg (Chg.of_below (X := fun _ => False) hb) (fun _ _ h => h)
/-- a pair more -/
theorem jf_done {st el en : TypeId} {B : Nat} {w wr w2 w3 w4 : World} {s m n a : Nat} {c : Addr} {len : Int} {T : List Bk} {es : List Ent} {p v : Addr} {k : Nat} {f : Tops} {H : Int} {A3 : Option Addr} {c3 : Nat}
    (hne1 : el ≠ st) (hne2 : en ≠ st) (hne3 : el ≠ en) (hH : hsh k f = H) (hd : Dr w wr) (hBs : B ≤ s) (hBm : B ≤ m) (h0 : 0 ≤ len) (h1 : len ≤ es.length) (hown : EOwn el wr B T) (hap : BApart T) (hbk : ∀ h, bkt T h = (es.filter (enHash h)).map (·.1))
    (hes : ∀ x ∈ es, EAt en B wr x) {F : Nat → Prop} (hF : F s ∧ F m ∧ (∀ x ∈ T, ∀ g, x.2.1.ownBlock = some g → F g) ∧ (∀ x ∈ es, F x.1.block) ∧ ∀ g, F g → g < wr.heap.size)
    (hbo : wr.ownsRow B el 1 (bval T H) n (ptrs (bkt T H))) (hlen : (bkt T H).length = n) (hsl : s < wr.heap.size)
    (hb2 : Below wr.heap.size wr w2) (ha : w2.heap[a]? = some (.cells #[.pointer (some p), .pointer (some v)] en (0, 0))) (haw : wr.heap.size ≤ a)
    (hgr : w2.grownBy w3 (bval T H).ownBlock) (hat : (Value.slice A3 (n + 1) c3).ownBlock = (bval T H).ownBlock ∨ ∃ z, (Value.slice A3 (n + 1) c3).ownBlock = some z ∧ wr.heap.size ≤ z)
    (hown3 : w3.ownsRow B el 1 (.slice A3 (n + 1) c3) (n + 1) (ptrs (bkt T H) ++ [.pointer (some ⟨a, 0, none⟩)])) (hm4 : MapAt w4 m (Prs.put (T.map fun x => (x.1, x.2.1)) H (.slice A3 (n + 1) c3))) (hg4 : w3.grownBy w4 (some m))
    (hs4 : w4.heap[s]? = some (.cells #[.map (some m), .int .i64 len, .iface 104 (.pointer (some c))] st (0, 0))) (hm3 : MapAt w3 m (T.map fun x => (x.1, x.2.1))) (hsm : s ≠ m) :
    ∃ F', JF st el en B (w4.setCell ⟨s, 1, none⟩ (.int .i64 (len + 1))) s m (es ++ [(⟨a, 0, none⟩, (p, k, f), v)]) F' ∧ (∀ j, F' j → F j ∨ w.heap.size ≤ j) ∧ Below B w (w4.setCell ⟨s, 1, none⟩ (.int .i64 (len + 1))) ∧ Chg (fun j => F j ∧ JX el w s m j) w (w4.setCell ⟨s, 1, none⟩ (.int .i64 (len + 1))) := by
  have hset : w4.grownBy (w4.setCell ⟨s, 1, none⟩ (.int .i64 (len + 1))) (some s) := ⟨rfl, rfl, rfl, by simp [World.setCell], fun j _ hj => Below.heap_setCell _ _ _ _ (fun e => hj (by rw [e]))⟩
  have keep4 : ∀ (v : Value) n xs, w3.ownsRow B el 1 v n xs → (w4.setCell ⟨s, 1, none⟩ (.int .i64 (len + 1))).ownsRow B el 1 v n xs := by
    intro v n xs h
    have a1 := h.kept hg4 (.inr (fun e => own_map_ne h hm3 e.symm))
    exact a1.kept hset (.inr (fun e => own_cells_ne a1 hs4 hne1 e.symm))
  have h3' : (w4.setCell ⟨s, 1, none⟩ (.int .i64 (len + 1))).ownsRow B el 1 (.slice A3 (n + 1) c3) (bkt T H ++ [(⟨a, 0, none⟩ : Addr)]).length (ptrs (bkt T H ++ [(⟨a, 0, none⟩ : Addr)])) := by
    have := keep4 _ _ _ hown3
    have e1 : (bkt T H ++ [(⟨a, 0, none⟩ : Addr)]).length = n + 1 := by simp [hlen]
    have e2 : ptrs (bkt T H ++ [(⟨a, 0, none⟩ : Addr)]) = ptrs (bkt T H) ++ [.pointer (some ⟨a, 0, none⟩)] := by simp [ptrs]
    rw [e1, e2]; exact this
  have key := bput_ownE (w := wr) (h := H) (l3 := bkt T H ++ [(⟨a, 0, none⟩ : Addr)]) h3' (by simp) hown hap (fun v n xs h hn hne => keep4 _ _ _ ((ownsRow_ext h hb2).kept hgr (.inr hne))) hat
  have hB0 : B ≤ wr.heap.size := by omega
  obtain ⟨me, mc, hmb, _⟩ := hm3
  have cells : ∀ (g : Nat) (cs : Array Value), w2.heap[g]? = some (Obj.cells cs en (0, 0)) → (w4.setCell ⟨s, 1, none⟩ (.int .i64 (len + 1))).heap[g]? = some (Obj.cells cs en (0, 0)) := by
    intro g cs hg
    have l2 := (Array.getElem?_eq_some_iff.1 hg).1
    have hne : some g ≠ (bval T H).ownBlock := by
      have ho2 := ownsRow_ext hbo hb2
      rcases ho2.2 with ⟨e, _⟩ | ⟨g', cap, cur, e, _, hh, _⟩
      · rw [e]; simp [Value.ownBlock]
      · rw [e]; intro e'
        have : g = g' := by simpa [Value.ownBlock] using e'
        subst this
        rw [hg] at hh; cases hh; exact hne3 rfl
    have e3 := (hgr.block g l2 hne).trans hg
    have hgm : g ≠ m := by rintro rfl; rw [e3] at hmb; cases hmb
    have e4 := (hg4.block g (Array.getElem?_eq_some_iff.1 e3).1 (fun e => hgm (Option.some.inj e))).trans e3
    have hgs : g ≠ s := by rintro rfl; rw [e4] at hs4; cases hs4; exact hne2 rfl
    exact (hset.block g (Array.getElem?_eq_some_iff.1 e4).1 (fun e => hgs (Option.some.inj e))).trans e4
  obtain ⟨F1, F2, F3, F4, F5⟩ := hF
  have hwr := hd.heap
  have sz4 : wr.heap.size ≤ w4.heap.size := Nat.le_trans hb2.size (Nat.le_trans hgr.size hg4.size)
  refine ⟨fun j => F j ∨ j = a ∨ (Value.slice A3 (n + 1) c3).ownBlock = some j, ⟨c, len + 1, bput T H (.slice A3 (n + 1) c3) (bkt T H ++ [⟨a, 0, none⟩]), ?_, hBs, hBm, by omega, by simp; omega, ?_, key.1, key.2, ?_, ?_, .inl F1, .inl F2, ?_, ?_, ?_⟩, ?_, ?_, ?_⟩
  · rw [heap_setCell_same w4 s 1 _ _ _ hs4]; rfl
  · rw [bput_map]
    exact hm4.grown hset (fun e => hsm (Option.some.inj e).symm)
  · intro h
    rw [bput_bkt, List.filter_append, List.map_append]
    by_cases hh : h = H
    · rw [if_pos hh, hbk, hh]
      congr 1
      have : enHash H (⟨a, 0, none⟩, (p, k, f), v) = true := decide_eq_true hH
      simp [List.filter, this]
    · rw [if_neg hh, hbk]
      have : enHash h (⟨a, 0, none⟩, (p, k, f), v) = false := decide_eq_false (fun e => hh (by rw [← e, hH]))
      simp [List.filter, this]
  · intro x hx
    rcases List.mem_append.1 hx with hx | hx
    · obtain ⟨g, e1, e2, e3⟩ := hes x hx
      exact ⟨g, e1, e2, cells g _ ((hb2.block g (Array.getElem?_eq_some_iff.1 e3).1).trans e3)⟩
    · simp at hx; subst hx
      exact ⟨a, rfl, by omega, cells a _ ha⟩
  · intro x hx g hg
    have mem : ∀ {l4 : List Addr} {T : List Bk}, x ∈ bput T H (.slice A3 (n + 1) c3) l4 → x ∈ T ∨ x.2.1 = .slice A3 (n + 1) c3 := by
      intro l4 T
      induction T with
      | nil => intro hy; simp [bput] at hy; subst hy; exact .inr rfl
      | cons z T ihT =>
        obtain ⟨z1, z2, z3⟩ := z
        intro hy
        unfold bput at hy
        split at hy
        · rcases List.mem_cons.1 hy with rfl | hy
          · exact .inr rfl
          · exact .inl (List.mem_cons_of_mem _ hy)
        · rcases List.mem_cons.1 hy with rfl | hy
          · exact .inl (List.mem_cons_self ..)
          · rcases ihT hy with h1 | h1
            · exact .inl (List.mem_cons_of_mem _ h1)
            · exact .inr h1
    rcases mem hx with h | h
    · exact .inl (F3 x h g hg)
    · rw [h] at hg; exact .inr (.inr hg)
  · intro x hx
    rcases List.mem_append.1 hx with hx | hx
    · exact .inl (F4 x hx)
    · simp at hx; subst hx; exact .inr (.inl rfl)
  · intro g hg
    have hsz : (w4.setCell ⟨s, 1, none⟩ (.int .i64 (len + 1))).heap.size = w4.heap.size := by simp [World.setCell]
    rw [hsz]
    rcases hg with hg | rfl | hg
    · exact Nat.lt_of_lt_of_le (F5 g hg) sz4
    · have := (Array.getElem?_eq_some_iff.1 ha).1
      exact Nat.lt_of_lt_of_le this (Nat.le_trans hgr.size hg4.size)
    · exact Nat.lt_of_lt_of_le (hown3.lt g hg).2 hg4.size
  · intro j hj
    rcases hj with hj | rfl | hj
    · exact .inl hj
    · exact .inr (by rw [← hwr]; exact haw)
    · rcases hat with e | ⟨z, e, hz⟩
      · rw [hj] at e
        rcases bval_mem T H with h | ⟨x, h1, h2⟩
        · rw [h] at e; simp [Value.ownBlock] at e
        · rw [h2] at e; exact .inl (F3 x h1 j e.symm)
      · rw [hj] at e; cases e
        exact .inr (by rw [← hwr]; exact hz)
  · have h1' : Below B w wr := hd.below.mono (by rw [← hd.heap]; exact hB0)
    have h2' : Below B wr w2 := hb2.mono hB0
    have hw : Below B w w2 := h1'.trans h2'
    have b3 : Below B w w3 := hw.grown hgr (Nat.le_trans hB0 hb2.size) (fun x hx => (hbo.lt x hx).1)
    have b4 : Below B w w4 := b3.grown hg4 (Nat.le_trans hB0 (Nat.le_trans hb2.size hgr.size)) (fun x hx => by cases hx; exact hBm)
    exact b4.setCell hBs _
  · have hh := hd.heap
    have hos : Below wr.heap.size wr wr := Below.refl _ _
    obtain ⟨dn, hdn⟩ := hd
    have hos1 : wr.os = w.os ∧ wr.tape = w.tape ∧ wr.output = w.output := by rw [hdn]; exact ⟨rfl, rfl, rfl⟩
    refine ⟨hset.os.trans (hg4.os.trans (hgr.os.trans (hb2.os.trans hos1.1))), hset.tape.trans (hg4.tape.trans (hgr.tape.trans (hb2.tape.trans hos1.2.1))), hset.output.trans (hg4.output.trans (hgr.output.trans (hb2.output.trans hos1.2.2))), ?_, ?_⟩
    · rw [← hh]; exact Nat.le_trans hb2.size (Nat.le_trans hgr.size (Nat.le_trans hg4.size hset.size))
    · intro j hj hx
      rw [← hh] at hj
      have hjs : j ≠ s := fun e => hx ⟨e ▸ F1, .inl e⟩
      have hjm : j ≠ m := fun e => hx ⟨e ▸ F2, .inr (.inl e)⟩
      have hjr : some j ≠ (bval T H).ownBlock := by
        rcases hbo.2 with ⟨e, _⟩ | ⟨g', cap, cur, e, _, hq, _⟩
        · rw [e]; simp [Value.ownBlock]
        · intro e'
          have hFj : F j := by
            rcases bval_mem T H with h | ⟨x, h1, h2⟩
            · rw [h] at e'; simp [Value.ownBlock] at e'
            · rw [h2] at e'; exact F3 x h1 j e'.symm
          rw [e] at e'
          have : j = g' := by simpa [Value.ownBlock] using e'
          subst this
          exact hx ⟨hFj, .inr (.inr ⟨_, by rw [← hh]; exact hq⟩)⟩
      have e2 := hb2.block j hj
      have e3 := hgr.block j (Nat.lt_of_lt_of_le hj hb2.size) hjr
      have e4 := hg4.block j (Nat.lt_of_lt_of_le hj (Nat.le_trans hb2.size hgr.size)) (fun e => hjm (Option.some.inj e))
      have e5 := hset.block j (Nat.lt_of_lt_of_le hj (Nat.le_trans hb2.size (Nat.le_trans hgr.size hg4.size))) (fun e => hjs (Option.some.inj e))
      rw [e5, e4, e3, e2, hh]
end Go.Proofs.Ytcbabfndfikejaa
