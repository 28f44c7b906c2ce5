/- What stays of the table while the closure writes the node that it makes. No condition. -/
import Derived.Test.YtcbabfndfikejaaZt0
import Derived.Test.YtcbabfndfikejaaDrawT
import Derived.Handy
namespace Go.Proofs.Ytcbabfndfikejaa
open Go.RowKit
set_option linter.unusedSimpArgs false

theorem ZMem.drew {w : World} {X : Nat → Prop} {B gk ga gt m : Nat} {v : Value} {K : List Addr} {ms : List Nd} (h : ZMem w X B gk ga gt m v K ms) : ZMem w.drew X B gk ga gt m v K ms := ⟨h.hk, h.ha, h.ht, h.tbl, h.map⟩
theorem own_stay {w w' : World} {base n : Nat} {v : Value} {xs : List Value} (h : w.ownsRow base 3 1 v n xs) (hs : Stay w w') : w'.ownsRow base 3 1 v n xs := by
  refine ⟨h.1, ?_⟩
  rcases h.2 with h | ⟨g, cap, cur, hv, hb, hg, hr⟩
  · exact .inl h
  · exact .inr ⟨g, cap, cur, hv, hb, hs.2 _ _ _ (.inr (.inr rfl)) hg, hr⟩
theorem own3_at {w : World} {base n : Nat} {v : Value} {xs : List Value} (h : w.ownsRow base 3 1 v n xs) {y : Nat} (hy : v.ownBlock = some y) : (∃ cs, w.heap[y]? = some (.cells cs 3 (0, 0))) ∧ base ≤ y := by
  rcases h.2 with ⟨rfl, _⟩ | ⟨g, cap, cur, rfl, hb, hg, hr⟩
  · cases hy
  · cases hy
    exact ⟨⟨cur, hg⟩, hb⟩
/-- the table stays while rows of numbers are written -/
theorem ZMem.move3 {w w' : World} {X X' Y : Nat → Prop} {B gk ga gt m : Nat} {v : Value} {K : List Addr} {ms : List Nd} (h : ZMem w X B gk ga gt m v K ms) (hch : Chg Y w w') (hm : Move X X' w w')
    (hY : ∀ y, Y y → y < w.heap.size → ∃ cs, w.heap[y]? = some (.cells cs 3 (0, 0))) : ZMem w' X' B gk ga gt m v K ms := by
  have no : ∀ {y : Nat} {o : Obj}, w.heap[y]? = some o → (∀ cs, o ≠ .cells cs 3 (0, 0)) → ¬ Y y := fun hg ho hy => by
    obtain ⟨cs, hcs⟩ := hY _ hy (Array.getElem?_eq_some_iff.1 hg).1
    rw [hg] at hcs
    cases hcs
    exact ho cs rfl
  refine ⟨hch.heap h.hk (no h.hk (fun cs e => by injection e with _ e; cases e)), hch.heap h.ha (no h.ha (fun cs e => by injection e with _ e; cases e)), hch.heap h.ht (no h.ht (fun cs e => by injection e with _ e; cases e)), ?_, ?_⟩
  · refine h.tbl.move hm (fun g hg => ?_)
    obtain ⟨xs, ho, _⟩ := h.tbl
    rcases ho.2 with ⟨rfl, _⟩ | ⟨g', cap, cur, rfl, _, hh, _⟩
    · cases hg
    · cases hg
      rw [hh]
      exact hch.heap hh (no hh (fun cs e => by injection e with _ e; cases e))
  · obtain ⟨es, clock, hmm, hf⟩ := h.map
    exact ⟨es, clock, hch.heap hmm (no hmm (fun cs e => by cases e)), hf⟩
/-- the table stays while a node that is being made is written -/
theorem ZMem.setN {w : World} {X : Nat → Prop} {B gk ga gt m gn : Nat} {v : Value} {K : List Addr} {ms : List Nd} {cs : Array Value} (h : ZMem w X B gk ga gt m v K ms) (hn : w.heap[gn]? = some (.cells cs 76 (0, 0))) (hv : v.ownBlock ≠ some gn) (i : Nat) (u : Value) :
    ZMem (w.setCell ⟨gn, i, none⟩ u) X B gk ga gt m v K ms ∧ Stay w (w.setCell ⟨gn, i, none⟩ u) ∧ (w.setCell ⟨gn, i, none⟩ u).heap[gn]? = some (.cells (cs.setIfInBounds i u) 76 (0, 0)) := by
  have far : ∀ {y : Nat}, y ≠ gn → (w.setCell ⟨gn, i, none⟩ u).heap[y]? = w.heap[y]? := fun {y} hy => Below.heap_setCell w ⟨gn, i, none⟩ u y hy
  have ne : ∀ {y : Nat} {o : Obj}, w.heap[y]? = some o → (∀ cs, o ≠ .cells cs 76 (0, 0)) → y ≠ gn := fun hg ho e => by
    subst e
    rw [hn] at hg
    cases hg
    exact ho cs rfl
  have hst : Stay w (w.setCell ⟨gn, i, none⟩ u) := ⟨by simp, fun g cs' e he hg => by
    rw [far (ne hg (fun c e' => by injection e' with _ e'; subst e'; rcases he with he | he | he <;> cases he))]
    exact hg⟩
  refine ⟨⟨?_, ?_, ?_, ?_, ?_⟩, hst, Blk.set_ hn i u⟩
  · rw [far (ne h.hk (fun c e => by injection e with _ e; cases e))]; exact h.hk
  · rw [far (ne h.ha (fun c e => by injection e with _ e; cases e))]; exact h.ha
  · rw [far (ne h.ht (fun c e => by injection e with _ e; cases e))]; exact h.ht
  · exact h.tbl.move (hst.move X) (fun g hg => far (fun e => hv (by rw [hg, e])))
  · obtain ⟨es, clock, hmm, hf⟩ := h.map
    exact ⟨es, clock, by rw [far (ne hmm (fun c e => by cases e))]; exact hmm, hf⟩
/-- what is in use: the rows of a node that is being made, too -/
def Use (X : Nat → Prop) (P T : Value) : Nat → Prop := fun y => X y ∨ P.ownBlock = some y ∨ T.ownBlock = some y
/-- one of the rows grows -/
theorem use_move {X : Nat → Prop} {P P' T : Value} {w w' : World} (hg : w.grownBy w' P.ownBlock) (hob : P'.ownBlock = P.ownBlock ∨ P'.ownBlock = some w.heap.size) : Move (Use X P T) (Use X P' T) w w' := by
  intro g cs e _ hx hgc
  have hlt := (Array.getElem?_eq_some_iff.1 hgc).1
  refine ⟨by rw [hg.block g hlt (fun h => hx (.inr (.inl h.symm)))]; exact hgc, ?_⟩
  rintro (h | h | h)
  · exact hx (.inl h)
  · rcases hob with h' | h'
    · rw [h'] at h; exact hx (.inr (.inl h))
    · rw [h'] at h; cases h; omega
  · exact hx (.inr (.inr h))
theorem use_swap {X : Nat → Prop} {P T : Value} (y : Nat) (h : Use X T P y) : Use X P T y := by
  rcases h with h | h | h
  · exact .inl h
  · exact .inr (.inr h)
  · exact .inr (.inl h)
theorem use_move' {X : Nat → Prop} {P T T' : Value} {w w' : World} (hg : w.grownBy w' T.ownBlock) (hob : T'.ownBlock = T.ownBlock ∨ T'.ownBlock = some w.heap.size) : Move (Use X P T) (Use X P T') w w' := by
  intro g cs e he hx hgc
  have := use_move (X := X) (T := P) hg hob g cs e he (fun h => hx (use_swap g h)) hgc
  exact ⟨this.1, fun h => this.2 (use_swap g h)⟩

def LInv (w0 : World) (S : List Addr) (X : Nat → Prop) (B gk ga gt m : Nat) (v : Value) (K : List Addr) (ms : List Nd) (qs : List Addr) (f : Tops) (w wr : World) (j : Nat) : Prop := ∃ (P T v' : Value) (K' : List Addr) (ms' : List Nd) (ps : List Int),
  ZMem wr (Use X P T) B gk ga gt m v' K' ms' ∧ ZP w0 S K' ms' ∧ (∃ E, K' = K ++ E) ∧ (∃ F, ms' = ms ++ F) ∧
  wr.heap[w.heap.size]? = some (.cells #[P, T] 76 (0, 0)) ∧ wr.ownsRow (w.heap.size + 1) 3 1 P j (ints ps) ∧ wr.ownsRow (w.heap.size + 1) 3 1 T j (ints (f.sts.take j)) ∧
  (∀ i, i < j → ∃ (x : Nat) (q : Addr), ps[i]? = some (x : Int) ∧ K'[x]? = some q ∧ qs[i]? = some q) ∧ (P.ownBlock = none ∨ P.ownBlock ≠ T.ownBlock) ∧
  (∀ q ∈ K', q ∈ K ∨ ∃ k' f', Rep w0 NoX q k' f' ∧ f'.size < f.size) ∧ Chg (Exc gt m v) w wr ∧ (v'.ownBlock = v.ownBlock ∨ ∀ y, v'.ownBlock = some y → w.heap.size ≤ y) ∧ v'.ownBlock ≠ some w.heap.size

/-- behind a round: the rows have grown, the node is written -/
theorem linv_step {S : List Addr} {X : Nat → Prop} {B gk ga gt m : Nat} {v : Value} {K : List Addr} {ms : List Nd} {qs : List Addr} {f : Tops} {w0 w w6 w8 w10 : World} {j x : Nat} {s : Int} {q : Addr} {P T P8 T10 v6 : Value} {K6 : List Addr} {ms6 : List Nd} {ps : List Int}
    (hM : ZMem w6 (Use X P T) B gk ga gt m v6 K6 ms6) (hP : ZP w0 S K6 ms6) (hE : ∃ E, K6 = K ++ E) (hF : ∃ F, ms6 = ms ++ F)
    (hn : w6.heap[w.heap.size]? = some (.cells #[P, T] 76 (0, 0))) (hoP : w6.ownsRow (w.heap.size + 1) 3 1 P j (ints ps)) (hoT : w6.ownsRow (w.heap.size + 1) 3 1 T j (ints (f.sts.take j)))
    (hps : ∀ i, i < j → ∃ (x : Nat) (q : Addr), ps[i]? = some (x : Int) ∧ K6[x]? = some q ∧ qs[i]? = some q) (hPT : P.ownBlock = none ∨ P.ownBlock ≠ T.ownBlock)
    (hq : ∀ q ∈ K6, q ∈ K ∨ ∃ k' f', Rep w0 NoX q k' f' ∧ f'.size < f.size) (hch : Chg (Exc gt m v) w w6) (hv : v6.ownBlock = v.ownBlock ∨ ∀ y, v6.ownBlock = some y → w.heap.size ≤ y) (hvn : v6.ownBlock ≠ some w.heap.size)
    (hx : K6[x]? = some q) (hqj : qs[j]? = some q) (hs : f.sts[j]? = some s) (hwl : w.heap.size < w6.heap.size)
    (hP8 : w8.ownsRow (w.heap.size + 1) 3 1 P8 (j + 1) (ints ps ++ [.int .i64 (x : Int)])) (hg8 : (w6.alloc (.cells #[.int .i64 (x : Int)] 3)).grownBy w8 P.ownBlock) (hob8 : P8.ownBlock = P.ownBlock ∨ P8.ownBlock = some (w6.heap.size + 1))
    (hT10 : w10.ownsRow (w.heap.size + 1) 3 1 T10 (j + 1) (ints (f.sts.take j) ++ [.int .i64 s])) (hg10 : (w8.alloc (.cells #[.int .i64 s] 3)).grownBy w10 T.ownBlock) (hob10 : T10.ownBlock = T.ownBlock ∨ T10.ownBlock = some (w8.heap.size + 1)) :
    LInv w0 S X B gk ga gt m v K ms qs f w ((w10.setCell ⟨w.heap.size, 0, none⟩ P8).setCell ⟨w.heap.size, 1, none⟩ T10) (j + 1) := by
  have hpsl : ps.length = j := by have := hoP.1; simpa [ints] using this
  have s6a : w6.heap.size + 1 = (w6.alloc (.cells #[.int .i64 (x : Int)] 3)).heap.size := by simp
  have s8a : w8.heap.size + 1 = (w8.alloc (.cells #[.int .i64 s] 3)).heap.size := by simp
  have s8 := hg8.size
  have s10 := hg10.size
  rw [← s6a] at s8
  rw [← s8a] at s10
  -- the first row
  have hM6a : ZMem (w6.alloc (.cells #[.int .i64 (x : Int)] 3)) (Use X P T) B gk ga gt m v6 K6 ms6 := hM.move3 (Y := NoX) (Chg.of_below (below_alloc' (Below.refl _ _) _)) ((Stay.refl w6).alloc _ |>.move _) (fun _ h => by cases h)
  have hn6a : (w6.alloc (.cells #[.int .i64 (x : Int)] 3)).heap[w.heap.size]? = some (.cells #[P, T] 76 (0, 0)) := (heap_old' hwl).trans hn
  have hoP6a := hoP.alloc (.cells #[.int .i64 (x : Int)] 3)
  have hoT6a := hoT.alloc (.cells #[.int .i64 (x : Int)] 3)
  have own3 : ∀ {W : World} {V : Value} {base nn : Nat} {xs : List Value}, W.ownsRow base 3 1 V nn xs → ∀ y, some y = V.ownBlock → y < W.heap.size → ∃ cs, W.heap[y]? = some (.cells cs 3 (0, 0)) := fun h y hy _ => (own3_at h hy.symm).1
  have hM8 : ZMem w8 (Use X P8 T) B gk ga gt m v6 K6 ms6 := hM6a.move3 (Chg.of_grown hg8) (use_move hg8 (by rw [← s6a]; exact hob8)) (own3 hoP6a)
  have hTP : T.ownBlock = none ∨ T.ownBlock ≠ P.ownBlock := by
    rcases hPT with h | h
    · cases hT : T.ownBlock with
      | none => exact .inl rfl
      | some y => right; rw [h]; exact fun e => by cases e
    · exact .inr (Ne.symm h)
  have hoT8 := World.ownsRow.kept hoT6a hg8 hTP
  have hn8 : w8.heap[w.heap.size]? = some (.cells #[P, T] 76 (0, 0)) := by
    rw [hg8.block _ (by omega) (fun h => by have := (own3_at hoP6a h.symm).2; omega)]
    exact hn6a
  have hch8 : Chg (Exc gt m v) w w8 := (hch.trans (Chg.of_below (X := NoX) (below_alloc' (Below.refl _ _) _)) (fun _ _ h => by cases h)).trans (Chg.of_grown hg8) (fun y hy h => by have := (own3_at hoP6a h.symm).2; omega)
  -- the second row
  have hM8a : ZMem (w8.alloc (.cells #[.int .i64 s] 3)) (Use X P8 T) B gk ga gt m v6 K6 ms6 := hM8.move3 (Y := NoX) (Chg.of_below (below_alloc' (Below.refl _ _) _)) ((Stay.refl w8).alloc _ |>.move _) (fun _ h => by cases h)
  have hoT8a := hoT8.alloc (.cells #[.int .i64 s] 3)
  have hP8a := hP8.alloc (.cells #[.int .i64 s] 3)
  have hP8T : P8.ownBlock = none ∨ P8.ownBlock ≠ T.ownBlock := by
    rcases hob8 with h | h
    · rw [h]; exact hPT
    · right
      rw [h]
      intro e
      have := (hoT6a.lt _ e.symm).2
      omega
  have hM10 : ZMem w10 (Use X P8 T10) B gk ga gt m v6 K6 ms6 := hM8a.move3 (Chg.of_grown hg10) (use_move' hg10 (by rw [← s8a]; exact hob10)) (own3 hoT8a)
  have hP10 := World.ownsRow.kept hP8a hg10 hP8T
  have hn10 : w10.heap[w.heap.size]? = some (.cells #[P, T] 76 (0, 0)) := by
    rw [hg10.block _ (by omega) (fun h => by have := (own3_at hoT8a h.symm).2; omega)]
    exact (heap_old' (by omega)).trans hn8
  have hch10 : Chg (Exc gt m v) w w10 := (hch8.trans (Chg.of_below (X := NoX) (below_alloc' (Below.refl _ _) _)) (fun _ _ h => by cases h)).trans (Chg.of_grown hg10) (fun y hy h => by have := (own3_at hoT8a h.symm).2; omega)
  have hP10T : P8.ownBlock = none ∨ P8.ownBlock ≠ T10.ownBlock := by
    rcases hob10 with h | h
    · rw [h]; exact hP8T
    · right
      rw [h]
      intro e
      have := (hP8.lt _ e).2
      omega
  obtain ⟨hMa, hsa, hna⟩ := hM10.setN hn10 hvn 0 P8
  obtain ⟨hMb, hsb, hnb⟩ := hMa.setN hna hvn 1 T10
  have hPf := own_stay (own_stay hP10 hsa) hsb
  have hTf := own_stay (own_stay hT10 hsa) hsb
  refine ⟨P8, T10, v6, K6, ms6, ps ++ [(x : Int)], hMb, hP, hE, hF, by simpa using hnb, by simpa [ints] using hPf, ?_, fun i hi => ?_, hP10T, hq, ?_, hv, hvn⟩
  · rw [take_snoc' _ _ _ hs]
    simpa [ints] using hTf
  · rcases Nat.lt_or_ge i j with h | h
    · obtain ⟨x', q', h1, h2, h3⟩ := hps i h
      exact ⟨x', q', by rw [List.getElem?_append_left (by omega)]; exact h1, h2, h3⟩
    · obtain rfl : i = j := by omega
      exact ⟨x, q, by rw [List.getElem?_append_right (by omega)]; simp [hpsl], hx, hqj⟩
  · have e1 : Chg (fun y => y = w.heap.size) w10 (w10.setCell ⟨w.heap.size, 0, none⟩ P8) := ⟨by first | rfl | simp, by first | rfl | simp, by first | rfl | simp, by simp, fun y _ hy => Below.heap_setCell w10 ⟨w.heap.size, 0, none⟩ P8 y hy⟩
    have e2 : Chg (fun y => y = w.heap.size) (w10.setCell ⟨w.heap.size, 0, none⟩ P8) ((w10.setCell ⟨w.heap.size, 0, none⟩ P8).setCell ⟨w.heap.size, 1, none⟩ T10) := ⟨by first | rfl | simp, by first | rfl | simp, by first | rfl | simp, by simp, fun y _ hy => Below.heap_setCell _ ⟨w.heap.size, 1, none⟩ T10 y hy⟩
    exact (hch10.trans e1 (fun y hy h => by omega)).trans e2 (fun y hy h => by omega)
end Go.Proofs.Ytcbabfndfikejaa
