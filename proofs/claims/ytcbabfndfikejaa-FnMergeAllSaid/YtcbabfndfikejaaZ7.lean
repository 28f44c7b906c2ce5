/- In one: The cache of merges (JPCMap): how it lies in memory, the walks of its making, of Get and of Put. Condition: the keys lie in memory. The walk of Put on a cache of merges. Condition: the keys lie in memory. The merge of two choices without fuel, and how many new choices it needs. No program in sight. -/
import Derived.Test.YtcbabfndfikejaaZ5
import Derived.Test.YtcbabfndfikejaaZ6
import Derived.Test.YtcbabfndfikejaaZ4
import Derived.Test.YtcbabfndfikejaaZ3
namespace Go.Proofs.Ytcbabfndfikejaa
open Go.RowKit
set_option linter.unusedSimpArgs false
/-- A key lies at p, outside Z. -/
def KOX (w : World) (Z : Nat → Prop) (p : Addr) (k : Nat) (f : Tops) : Prop := Rep w Z p k f ∧ ((Wf k f ∧ k ≠ 0) ∨ (k = 2 ∧ f = .nil ∧ Nil2 w p))
theorem KOX.ko {w : World} {Z : Nat → Prop} {p : Addr} {k : Nat} {f : Tops} (h : KOX w Z p k f) : KO w p k f := ⟨h.1.noX, h.2⟩
theorem KOX.move {w w' : World} {Z Z' : Nat → Prop} {p : Addr} {k : Nat} {f : Tops} (h : KOX w Z p k f) (hm : Move Z Z' w w') : KOX w' Z' p k f := by
  refine ⟨h.1.move hm, h.2.imp id ?_⟩
  rintro ⟨h1, h2, g, a, c, a', c', h3, h4⟩
  obtain ⟨g', _, _, _, _, e, hx, _⟩ := h.1.head
  rw [h3] at e
  cases e
  exact ⟨h1, h2, g, a, c, a', c', h3, (hm _ _ _ (.inl rfl) hx h4).1⟩
theorem KOX.stay {w w' : World} {Z : Nat → Prop} {p : Addr} {k : Nat} {f : Tops} (h : KOX w Z p k f) (hs : Stay w w') : KOX w' Z p k f := h.move (hs.move Z)
/-- a property of what is kept that moves -/
def QMove (Q : (Nat → Prop) → World → Tr → Tr → Addr → Prop) : Prop := ∀ Z Z' w w' X Y q, Move Z Z' w w' → Q Z w X Y q → Q Z' w' X Y q
/-- the inner store of a key -/
structure In where
  s : Nat
  m : Nat
  es : List Ent
  F : Nat → Prop
abbrev PRow := Ent × In
theorem Chg.mono {X Y : Nat → Prop} {w w' : World} (h : Chg X w w') (hXY : ∀ j, X j → Y j) : Chg Y w w' := ⟨h.os, h.tape, h.output, h.size, fun j hj hy => h.block j hj (fun hx => hy (hXY j hx))⟩
/-- What is kept for a key: its inner store, each pair of which is a fine merge. -/
def RowOk (B : Nat) (Q : (Nat → Prop) → World → Tr → Tr → Addr → Prop) (Z : Nat → Prop) (L : Nat) (w : World) (F : Nat → Prop) (pa : Nat) (r : PRow) : Prop :=
  r.1.2.2 = ⟨r.2.s, 0, none⟩ ∧ JFC B w r.2.s r.2.m r.2.es r.2.F ∧ (∀ j, r.2.F j → ¬ F j) ∧ ¬ r.2.F pa ∧ r.2.es.length ≤ L ∧ KOX w Z r.1.2.1.1 r.1.2.1.2.1 r.1.2.1.2.2 ∧
  ∀ x ∈ r.2.es, KOX w Z x.2.1.1 x.2.1.2.1 x.2.1.2.2 ∧ Q Z w r.1.2.1.2 x.2.1.2 x.2.2
/-- The cache lies at pa, in the blocks Φ; it holds at most L pairs of a kind. -/
def PCM (B : Nat) (Q : (Nat → Prop) → World → Tr → Tr → Addr → Prop) (Z : Nat → Prop) (pa : Nat) (L : Nat) (Φ : Nat → Prop) (w : World) : Prop :=
  ∃ (s m : Nat) (F : Nat → Prop) (rows : List PRow) (size : Int), w.heap[pa]? = some (.cells #[.pointer (some ⟨s, 0, none⟩), .int .i64 size] 126 (0, 0)) ∧ ¬ F pa ∧
    JFB B w s m (rows.map (·.1)) F ∧ rows.length ≤ L ∧ (∀ r ∈ rows, RowOk B Q Z L w F pa r) ∧ rows.Pairwise (fun a b => ∀ j, a.2.F j → ¬ b.2.F j) ∧
    Φ pa ∧ (∀ j, F j → Φ j) ∧ (∀ r ∈ rows, ∀ j, r.2.F j → Φ j) ∧ ∀ j, Φ j → B ≤ j ∧ j < w.heap.size
section
variable {B : Nat} {Q : (Nat → Prop) → World → Tr → Tr → Addr → Prop} {Z Z2 : Nat → Prop} {pa L : Nat} {Φ : Nat → Prop} {w w' : World}
theorem RowOk.chg {F X : Nat → Prop} {r : PRow} (h : RowOk B Q Z L w F pa r) (hQ : QMove Q) (hc : Chg X w w') (hs : Move Z Z2 w w') (hX : ∀ j, r.2.F j → ¬ X j) : RowOk B Q Z2 L w' F pa r := by
  obtain ⟨h1, h2, h3, h4, h5, h6, h7⟩ := h
  exact ⟨h1, h2.chg hc hX, h3, h4, h5, h6.move hs, fun x hx => ⟨(h7 x hx).1.move hs, hQ _ _ _ _ _ _ _ hs (h7 x hx).2⟩⟩
theorem PCM.chg {X : Nat → Prop} (h : PCM B Q Z pa L Φ w) (hQ : QMove Q) (hc : Chg X w w') (hs : Move Z Z2 w w') (hX : ∀ j, Φ j → ¬ X j) : PCM B Q Z2 pa L Φ w' := by
  obtain ⟨s, m, F, rows, size, h1, h2, h3, h4, h5, h6, h7, h8, h9, h10⟩ := h
  exact ⟨s, m, F, rows, size, hc.heap h1 (hX _ h7), h2, h3.chg hc (fun j hj => hX j (h8 j hj)), h4, fun r hr => (h5 r hr).chg hQ hc hs (fun j hj => hX j (h9 r hr j hj)), h6, h7, h8, h9, fun j hj => ⟨(h10 j hj).1, Nat.lt_of_lt_of_le (h10 j hj).2 hc.size⟩⟩
theorem PCM.below (h : PCM B Q Z pa L Φ w) (hQ : QMove Q) (hb : Below w.heap.size w w') : PCM B Q Z pa L Φ w' :=
  h.chg (X := fun _ => False) hQ (Chg.of_below hb) ((Stay.of_below hb).move Z) (fun _ _ h => h)
theorem PCM.mono {L' : Nat} (h : PCM B Q Z pa L Φ w) (hL : L ≤ L') : PCM B Q Z pa L' Φ w := by
  obtain ⟨s, m, F, rows, size, h1, h2, h3, h4, h5, h6, h7⟩ := h
  exact ⟨s, m, F, rows, size, h1, h2, h3, Nat.le_trans h4 hL, fun r hr => by
    obtain ⟨g1, g2, g3, g4, g5, g6⟩ := h5 r hr
    exact ⟨g1, g2, g3, g4, Nat.le_trans g5 hL, g6⟩, h6, h7⟩
theorem PCM.grow {Φ' : Nat → Prop} (h : PCM B Q Z pa L Φ w) (h1 : ∀ j, Φ j → Φ' j) (h2 : ∀ j, Φ' j → B ≤ j ∧ j < w.heap.size) : PCM B Q Z pa L Φ' w := by
  obtain ⟨s, m, F, rows, size, g1, g2, g3, g4, g5, g6, g7, g8, g9, g10⟩ := h
  exact ⟨s, m, F, rows, size, g1, g2, g3, g4, g5, g6, h1 _ g7, fun j hj => h1 _ (g8 j hj), fun r hr j hj => h1 _ (g9 r hr j hj), h2⟩
end
/-- the blocks made from a to b -/
def Mid (a b : World) (j : Nat) : Prop := a.heap.size ≤ j ∧ j < b.heap.size
def PNew (Q : (Nat → Prop) → World → Tr → Tr → Addr → Prop) (Z : Nat → Prop) (w : World) (e : Ending) (w' : World) : Prop := ∃ pa, e = .returned (.pointer (some ⟨pa, 0, none⟩)) ∧ PCM w.heap.size Q Z pa 0 (Mid w w') w' ∧ Below w.heap.size w w'
set_option maxRecDepth 20000 in
theorem newPC_any (Q : (Nat → Prop) → World → Tr → Tr → Addr → Prop) (Z : Nat → Prop) (d : Int) (st : ByteArray) (w : World) : Calls Try.prog 60 #[.int .i64 d, .string st] w (PNew Q Z w) := by
  have HN := Lib.hid newJMapB_any
  go_enter Try.func60, Try.ntmps60
  go_wp2_with fail
  refine (HN.out _ _ _ _).mono ?_
  rintro e w1 ⟨rfl, hj, hb⟩
  have HJ := Lib.hid hj
  have HB := Lib.hid hb
  clear hj hb
  go_wp2_with fail
  go_ret
  have es : (w.alloc (.cells #[] 106)).heap.size = w.heap.size + 1 := by simp
  have b0 : Below w.heap.size w (w.alloc (.cells #[] 106)) := (Below.refl _ w).alloc (Nat.le_refl _) _
  have b1 := below_trans b0 HB.out
  have hb1 := HB.out.size
  have hj2 := HJ.out.below ((Below.refl _ w1).alloc (Nat.le_refl _) (.cells #[.pointer (some ⟨(w.alloc (.cells #[] 106)).heap.size + 1, 0, none⟩), .int .i64 0] 126))
  have hlt := HJ.out.lt
  rw [es] at hj2 hb1 hlt
  have hle : w.heap.size ≤ w.heap.size + 1 := Nat.le_succ _
  refine ⟨w1.heap.size, rfl, ⟨w.heap.size + 1 + 1, w.heap.size + 1, fun j => j = w.heap.size + 1 ∨ j = w.heap.size + 1 + 1, [], 0, heap_new' rfl, fun h => ?_, ?_, Nat.le_refl _, fun r hr => absurd hr (List.not_mem_nil), List.Pairwise.nil, ⟨b1.size, by simp⟩, fun j hj => ?_, fun r hr => absurd hr (List.not_mem_nil), fun j hj => ⟨hj.1, hj.2⟩⟩, b1.alloc b1.size _⟩
  · have := hlt _ h; omega
  · obtain ⟨c, len, T, h1, h2, h3, h4, h5, h6, h7, h8, h9, h10, f⟩ := hj2
    refine ⟨c, len, T, h1, Nat.le_trans hle h2, Nat.le_trans hle h3, h4, h5, h6, fun x hx => ?_, h8, h9, fun x hx => absurd hx (List.not_mem_nil), f⟩
    obtain ⟨⟨l1, l2⟩, l3⟩ := h7 x hx
    refine ⟨⟨l1, l2.imp id ?_⟩, l3⟩
    rintro ⟨g, cap, cur, e1, e2, e3⟩
    exact ⟨g, cap, cur, e1, Nat.le_trans hle e2, e3⟩
  · have := hlt j hj
    refine ⟨by omega, by simp; omega⟩
/-- What a look-up of a pair answers. -/
def PGet (Q : (Nat → Prop) → World → Tr → Tr → Addr → Prop) (Z : Nat → Prop) (X Y : Tr) (w : World) (e : Ending) (w' : World) : Prop := ∃ v : Option Addr, e = .returned (.tuple #[.pointer v, .bool v.isSome]) ∧ Dr w w' ∧ ∀ q, v = some q → Q Z w X Y q
set_option maxRecDepth 20000 in
theorem pget_any (B : Nat) (Q : (Nat → Prop) → World → Tr → Tr → Addr → Prop) (Z : Nat → Prop) (pa L : Nat) (Φ : Nat → Prop) (w : World) (p q : Addr) (X Y : Tr) (h : PCM B Q Z pa L Φ w) (hQ : QMove Q) (hL : L ≤ 1000000000) (hp : KO w p X.1 X.2) (hq : KO w q Y.1 Y.2) :
    Calls Try.prog 96 #[.pointer (some ⟨pa, 0, none⟩), .pointer (some p), .pointer (some q)] w (PGet Q Z X Y w) := by
  obtain ⟨s, m, F, rows, size, h1, h2, h3, h4, h5, h6, _⟩ := h
  have c0 : w.cell? ⟨pa, 0, none⟩ = some (.pointer (some ⟨s, 0, none⟩)) := cell_of h1 0
  have HG := Lib.hid (jgetB_any B w s m (rows.map (·.1)) p X.1 X.2 F h3 (fun x hx => by
    obtain ⟨y, hy, rfl⟩ := List.mem_map.1 hx
    obtain ⟨r, hr, rfl⟩ := List.mem_map.1 hy
    exact (h5 r hr).2.2.2.2.2.1.ko) (by simp; omega) hp)
  have HR := Lib.hid h5
  have HQ := Lib.hid hq
  have HS := Lib.hid hQ
  clear h1 h2 h3 h5 h6 hp hq hQ
  go_enter Try.func96, Try.ntmps96
  go_wp2_with fail
  refine HG.out.mono ?_
  rintro e w1 ⟨rfl, hd⟩
  have HD := Lib.hid hd
  clear hd HG
  cases hf : fstE (rows.map (·.1)) X.1 X.2 with
  | none =>
    clear hf
    go_wp2_with fail
    go_ret2
    exact ⟨none, rfl, HD.out, fun q hq => by cases hq⟩
  | some m2 =>
    obtain ⟨e0, p0, hm⟩ := fstE_some hf
    obtain ⟨r, hr, hre⟩ := List.mem_map.1 hm
    obtain ⟨g1, g2, _, _, g5, _, g7⟩ := HR.out r hr
    rw [hre] at g1 g7
    simp only at g1 g7
    subst g1
    have HC := Lib.hid (jgetC_any B w1 r.2.s r.2.m r.2.es q Y.1 Y.2 r.2.F (g2.dr HD.out) (fun x hx => by
      obtain ⟨y, hy, rfl⟩ := List.mem_map.1 hx
      exact (g7 y hy).1.ko.stay HD.out.stay) (by omega) (HQ.out.stay HD.out.stay))
    have H7 := Lib.hid g7
    clear hf hm hr hre g2 g5 g7
    go_wp2_with fail
    refine HC.out.mono ?_
    rintro e w2 ⟨rfl, hd2⟩
    have HD2 := Lib.hid (HD.out.trans hd2)
    clear hd2 HC
    go_wp2_with fail
    go_ret2
    refine ⟨_, rfl, HD2.out, fun q hq => ?_⟩
    obtain ⟨e1, p1, hm1⟩ := fstE_some hq
    exact (H7.out _ hm1).2
end Go.Proofs.Ytcbabfndfikejaa
namespace Go.Proofs.Ytcbabfndfikejaa
open Go.RowKit
set_option linter.unusedSimpArgs false
theorem stay_of_jx {w w' : World} {s m : Nat} {st el en : TypeId} {B : Nat} {es : List Ent} {F : Nat → Prop} (h : JF st el en B w s m es F) (hst : ¬ ctxTy st) (hel : ¬ ctxTy el) (hc : Chg (fun j => F j ∧ JX el w s m j) w w') : Stay w w' :=
  h.jm.stay hst hel (hc.mono (fun _ h => h.2))
theorem set_grown (w : World) (g i : Nat) (v : Value) : w.grownBy (w.setCell ⟨g, i, none⟩ v) (some g) := ⟨rfl, rfl, rfl, by simp [World.setCell], fun j _ hj => Below.heap_setCell _ _ _ _ (fun e => hj (by rw [e]))⟩
theorem set_stay {w : World} {g i : Nat} {v : Value} {cs : Array Value} {e : TypeId} (hg : w.heap[g]? = some (.cells cs e (0, 0))) (he : ¬ ctxTy e) : Stay w (w.setCell ⟨g, i, none⟩ v) :=
  (Chg.of_grown (set_grown w g i v)).stay (fun g' cs' e' hg' he' hx => by cases hx; rw [hg] at hg'; cases hg'; exact he he')
theorem JF.base {st el en : TypeId} {B B' : Nat} {w : World} {s m : Nat} {es : List Ent} {F : Nat → Prop} (h : JF st el en B' w s m es F) (hB : B ≤ B') : JF st el en B w s m es F := by
  obtain ⟨c, len, T, h1, h2, h3, h4, h5, h6, h7, h8, h9, h10, f⟩ := h
  refine ⟨c, len, T, h1, Nat.le_trans hB h2, Nat.le_trans hB h3, h4, h5, h6, fun x hx => ?_, h8, h9, fun x hx => ?_, f⟩
  · obtain ⟨⟨l1, l2⟩, l3⟩ := h7 x hx
    refine ⟨⟨l1, l2.imp id ?_⟩, l3⟩
    rintro ⟨g, cap, cur, e1, e2, e3⟩
    exact ⟨g, cap, cur, e1, Nat.le_trans hB e2, e3⟩
  · obtain ⟨g, e1, e2, e3⟩ := h10 x hx
    exact ⟨g, e1, Nat.le_trans hB e2, e3⟩
/-- What a store to the cache leaves. -/
def PPut (B : Nat) (Q : (Nat → Prop) → World → Tr → Tr → Addr → Prop) (Z : Nat → Prop) (pa L : Nat) (Φ : Nat → Prop) (w : World) (e : Ending) (w' : World) : Prop := e = .returned (.tuple #[]) ∧ ∃ Φ', PCM B Q Z pa (L + 1) Φ' w' ∧ (∀ j, Φ' j → Φ j ∨ w.heap.size ≤ j) ∧ Chg Φ w w' ∧ Stay w w'
theorem cell126 {w : World} {pa s : Nat} {size : Int} (h : w.heap[pa]? = some (.cells #[.pointer (some ⟨s, 0, none⟩), .int .i64 size] 126 (0, 0))) : w.cell? ⟨pa, 0, none⟩ = some (.pointer (some ⟨s, 0, none⟩)) ∧ w.cell? ⟨pa, 1, none⟩ = some (.int .i64 size) ∧ w.frozen? ⟨pa, 1, none⟩ = false :=
  ⟨cell_of h 0, cell_of h 1, by simp [World.frozen?, h]⟩
/-- The key was known: its inner store has grown. -/
theorem pput_old {B : Nat} {Q : (Nat → Prop) → World → Tr → Tr → Addr → Prop} {Z : Nat → Prop} {pa L : Nat} {Φ : Nat → Prop} {w w' : World} {s m : Nat} {F : Nat → Prop} {l1 l2 : List PRow} {r : PRow} {size : Int} {es' : List Ent} {F' : Nat → Prop}
    (hQ : QMove Q)
    (h1 : w.heap[pa]? = some (.cells #[.pointer (some ⟨s, 0, none⟩), .int .i64 size] 126 (0, 0))) (h2 : ¬ F pa) (h3 : JFB B w s m ((l1 ++ r :: l2).map (·.1)) F) (h4 : (l1 ++ r :: l2).length ≤ L) (h5 : ∀ x ∈ l1 ++ r :: l2, RowOk B Q Z L w F pa x)
    (h6 : (l1 ++ r :: l2).Pairwise (fun a b => ∀ j, a.2.F j → ¬ b.2.F j)) (h7 : Φ pa) (h8 : ∀ j, F j → Φ j) (h9 : ∀ x ∈ l1 ++ r :: l2, ∀ j, x.2.F j → Φ j) (h10 : ∀ j, Φ j → B ≤ j ∧ j < w.heap.size)
    (hj : JFC B w' r.2.s r.2.m es' F') (hF : ∀ j, F' j → r.2.F j ∨ w.heap.size ≤ j) (hc : Chg (fun j => r.2.F j ∧ JX 142 w r.2.s r.2.m j) w w') (hel : es'.length ≤ L + 1)
    (hx : ∀ x ∈ es', KOX w' Z x.2.1.1 x.2.1.2.1 x.2.1.2.2 ∧ Q Z w' r.1.2.1.2 x.2.1.2 x.2.2) :
    ∃ Φ', PCM B Q Z pa (L + 1) Φ' w' ∧ (∀ j, Φ' j → Φ j ∨ w.heap.size ≤ j) ∧ Chg Φ w w' ∧ Stay w w' ∧ w'.heap[pa]? = some (.cells #[.pointer (some ⟨s, 0, none⟩), .int .i64 size] 126 (0, 0)) := by
  have hr := h5 r (by simp)
  obtain ⟨g1, g2, g3, g4, g5, g6, g7⟩ := hr
  have hst : Stay w w' := stay_of_jx g2 (by simp [ctxTy]) (by simp [ctxTy]) hc
  have hcF : Chg r.2.F w w' := hc.mono (fun _ h => h.1)
  have hpw := h6
  rw [List.pairwise_append, List.pairwise_cons] at hpw
  obtain ⟨p1, ⟨p2, p3⟩, p4⟩ := hpw
  have d1 : ∀ x ∈ l1, ∀ j, x.2.F j → ¬ r.2.F j := fun x hx => p4 x hx r (by simp)
  have d2 : ∀ x ∈ l2, ∀ j, x.2.F j → ¬ r.2.F j := fun x hx j hj hrj => p2 x hx j hrj hj
  have lt : ∀ x ∈ l1 ++ r :: l2, ∀ j, x.2.F j → j < w.heap.size := fun x hx => (h5 x hx).2.1.lt
  have hpa : w'.heap[pa]? = some (.cells #[.pointer (some ⟨s, 0, none⟩), .int .i64 size] 126 (0, 0)) := hcF.heap h1 g4
  have hpal := (Array.getElem?_eq_some_iff.1 h1).1
  refine ⟨fun j => Φ j ∨ (w.heap.size ≤ j ∧ j < w'.heap.size), ⟨s, m, F, l1 ++ (r.1, ⟨r.2.s, r.2.m, es', F'⟩) :: l2, size, hpa, h2, ?_, by simp at h4 ⊢; omega, ?_, ?_, .inl h7, fun j hj => .inl (h8 j hj), ?_, ?_⟩, fun j hj => hj.imp id (fun h => h.1), hcF.mono (h9 r (by simp)), hst, hpa⟩
  · have e : (l1 ++ ((r.1, ⟨r.2.s, r.2.m, es', F'⟩) : PRow) :: l2).map (·.1) = (l1 ++ r :: l2).map (·.1) := by simp
    rw [e]
    exact h3.chg hcF (fun j hj hrj => g3 j hrj hj)
  · intro x hx'
    rcases List.mem_append.1 hx' with h | h
    · obtain ⟨a1, a2, a3, a4, a5, a6⟩ := (h5 x (by simp [h])).chg hQ hcF (hst.move Z) (d1 x h)
      exact ⟨a1, a2, a3, a4, by omega, a6⟩
    · rcases List.mem_cons.1 h with rfl | h
      · refine ⟨g1, hj, fun j hj' hFj => ?_, fun hp => ?_, hel, g6.stay hst, hx⟩
        · rcases hF j hj' with h | h
          · exact g3 j h hFj
          · have := h3.lt j hFj; omega
        · rcases hF pa hp with h | h
          · exact g4 h
          · omega
      · obtain ⟨a1, a2, a3, a4, a5, a6⟩ := (h5 x (by simp [h])).chg hQ hcF (hst.move Z) (d2 x h)
        exact ⟨a1, a2, a3, a4, by omega, a6⟩
  · rw [List.pairwise_append, List.pairwise_cons]
    refine ⟨p1, ⟨fun x hx j hj hxj => ?_, p3⟩, fun x hx y hy j hxj hyj => ?_⟩
    · rcases hF j hj with h | h
      · exact p2 x hx j h hxj
      · have := lt x (by simp [hx]) j hxj; omega
    · rcases List.mem_cons.1 hy with rfl | hy
      · rcases hF j hyj with h | h
        · exact d1 x hx j hxj h
        · have := lt x (by simp [hx]) j hxj; omega
      · exact p4 x hx y (by simp [hy]) j hxj hyj
  · intro x hx' j hxj
    rcases List.mem_append.1 hx' with h | h
    · exact .inl (h9 x (by simp [h]) j hxj)
    · rcases List.mem_cons.1 h with rfl | h
      · rcases hF j hxj with h | h
        · exact .inl (h9 r (by simp) j h)
        · exact .inr ⟨h, hj.lt j hxj⟩
      · exact .inl (h9 x (by simp [h]) j hxj)
  · intro j hj
    have hsz := hcF.size
    rcases hj with h | h
    · have := h10 j h; omega
    · have := h10 pa h7; omega
/-- The number of pairs is counted up. -/
theorem pput_size {B : Nat} {Q : (Nat → Prop) → World → Tr → Tr → Addr → Prop} {Z : Nat → Prop} {pa L : Nat} {Φ Φ' : Nat → Prop} {w w' : World} {s : Nat} {size n : Int} (hQ : QMove Q)
    (h : PCM B Q Z pa (L + 1) Φ' w') (hF : ∀ j, Φ' j → Φ j ∨ w.heap.size ≤ j) (hc : Chg Φ w w') (hs : Stay w w') (hpa : w'.heap[pa]? = some (.cells #[.pointer (some ⟨s, 0, none⟩), .int .i64 size] 126 (0, 0))) (hp : Φ pa) :
    PCM B Q Z pa (L + 1) Φ' (w'.setCell ⟨pa, 1, none⟩ (.int .i64 n)) ∧ (∀ j, Φ' j → Φ j ∨ w.heap.size ≤ j) ∧ Chg Φ w (w'.setCell ⟨pa, 1, none⟩ (.int .i64 n)) ∧ Stay w (w'.setCell ⟨pa, 1, none⟩ (.int .i64 n)) := by
  have hst := set_stay (i := 1) (v := .int .i64 n) hpa (by simp [ctxTy])
  have hgr := Chg.of_grown (set_grown w' pa 1 (.int .i64 n))
  refine ⟨?_, hF, hc.trans hgr (fun j _ hj => by cases hj; exact hp), hs.trans hst⟩
  obtain ⟨s', m, F, rows, size', h1, h2, h3, h4, h5, h6, h7, h8, h9, h10⟩ := h
  rw [hpa] at h1
  cases h1
  have no : ∀ (G : Nat → Prop), ¬ G pa → ∀ j, G j → ¬ (some j = some pa) := fun G hG j hj e => by cases e; exact hG hj
  refine ⟨s, m, F, rows, n, by rw [heap_setCell_same w' pa 1 _ _ _ hpa]; rfl, h2, h3.chg hgr (no F h2), h4, fun r hr => (h5 r hr).chg hQ hgr (hst.move Z) (no _ (h5 r hr).2.2.2.1), h6, h7, h8, h9, fun j hj => ⟨(h10 j hj).1, Nat.lt_of_lt_of_le (h10 j hj).2 hgr.size⟩⟩
set_option maxRecDepth 20000 in
set_option maxHeartbeats 4000000 in
theorem pput_any (B : Nat) (Q : (Nat → Prop) → World → Tr → Tr → Addr → Prop) (Z : Nat → Prop) (pa L : Nat) (Φ : Nat → Prop) (w : World) (p q v : Addr) (X Y : Tr) (h : PCM B Q Z pa L Φ w) (hQ : QMove Q) (hL : L ≤ 1000000000) (hp : KOX w Z p X.1 X.2) (hq : KOX w Z q Y.1 Y.2) (hv : Q Z w X Y v) :
    Calls Try.prog 98 #[.pointer (some ⟨pa, 0, none⟩), .pointer (some p), .pointer (some q), .pointer (some v)] w (PPut B Q Z pa L Φ w) := by
  have HPC := Lib.hid h
  obtain ⟨s, m, F, rows, size, h1, h2, h3, h4, h5, h6, h7, h8, h9, h10⟩ := h
  have HAK := Lib.hid (show AllKB w ((rows.map (·.1)).map (·.2.1)) from fun x hx => by
    obtain ⟨y, hy, rfl⟩ := List.mem_map.1 hx
    obtain ⟨r, hr, rfl⟩ := List.mem_map.1 hy
    exact (h5 r hr).2.2.2.2.2.1.ko)
  have c0 : w.cell? ⟨pa, 0, none⟩ = some (.pointer (some ⟨s, 0, none⟩)) := cell_of h1 0
  have HG := Lib.hid (jgetB_any B w s m (rows.map (·.1)) p X.1 X.2 F h3 HAK.out (by simp; omega) hp.ko)
  have H1 := Lib.hid h1
  have H2 := Lib.hid h2
  have H3 := Lib.hid h3
  have H4 := Lib.hid h4
  have H5 := Lib.hid h5
  have H6 := Lib.hid h6
  have H7 := Lib.hid h7
  have H8 := Lib.hid h8
  have H9 := Lib.hid h9
  have H10 := Lib.hid h10
  have HP := Lib.hid hp
  have HQ := Lib.hid hq
  have HS := Lib.hid hQ
  have HV := Lib.hid hv
  clear h1 h2 h3 h4 h5 h6 h7 h8 h9 h10 hp hq hQ hv
  go_enter Try.func98, Try.ntmps98
  go_wp2_with fail
  refine HG.out.mono ?_
  rintro e w1 ⟨rfl, hd⟩
  have HD := Lib.hid hd
  clear hd HG
  cases hf : fstE (rows.map (·.1)) X.1 X.2 with
  | some m2 =>
    obtain ⟨e0, p0, hm⟩ := fstE_some hf
    obtain ⟨r, hr, hre⟩ := List.mem_map.1 hm
    have HRE := Lib.hid hre
    obtain ⟨g1, g2, g3, g4, g5, g6, g7⟩ := (H5.out r hr).chg HS.out (X := fun _ => False) (Chg.of_below HD.out.below) (HD.out.stay.move Z) (fun _ _ h => h)
    obtain ⟨l1, l2, hl⟩ := List.append_of_mem hr
    have HL := Lib.hid hl
    have hm2 : m2 = ⟨r.2.s, 0, none⟩ := by rw [← g1, hre]
    subst hm2
    have HC := Lib.hid (jputC_any B w1 r.2.s r.2.m r.2.es q v Y.1 Y.2 r.2.F g2 (fun x hx => by
      obtain ⟨y, hy, rfl⟩ := List.mem_map.1 hx
      exact (g7 y hy).1.ko) (by omega) (HQ.out.ko.stay HD.out.stay))
    have H1' := Lib.hid (show w1.heap[pa]? = some (.cells #[.pointer (some ⟨s, 0, none⟩), .int .i64 size] 126 (0, 0)) by rw [HD.out.heap]; exact H1.out)
    have G7 := Lib.hid g7
    have G5 := Lib.hid g5
    clear hf hm hr hre hl g1 g2 g3 g4 g5 g6 g7
    go_wp2_with fail
    refine HC.out.mono ?_
    rintro e w2 (⟨u, _, rfl, hd2⟩ | ⟨hn, rfl, a, F', hj, hF', hb, hc⟩)
    · have HFIN := Lib.hid (show PPut B Q Z pa L Φ w (.returned (.tuple #[])) w2 from ⟨rfl, Φ, (HPC.out.below HS.out (HD.out.trans hd2).below).mono (Nat.le_succ _), fun j hj => .inl hj, (Chg.of_below (X := Φ) (HD.out.trans hd2).below), (HD.out.trans hd2).stay⟩)
      clear hd2 HC
      go_wp2_with fail
      go_end0
      exact HFIN.out
    · have hst := stay_of_jx ((H5.out r (by rw [HL.out]; simp)).2.1.dr HD.out) (by simp [ctxTy]) (by simp [ctxTy]) hc
      have hww : w.heap.size = w1.heap.size := by rw [HD.out.heap]
      have hrows := HL.out
      have hkX : r.1.2.1.2 = X := by rw [HRE.out]
      have key := pput_old (Q := Q) (pa := pa) (L := L) (Φ := Φ) (w := w1) (w' := w2) (s := s) (m := m) (F := F) (l1 := l1) (l2 := l2) (r := r) (size := size) (es' := r.2.es ++ [(a, (q, Y.1, Y.2), v)]) (F' := F') HS.out H1'.out H2.out
        (by rw [← hrows]; exact H3.out.dr HD.out) (by rw [← hrows]; exact H4.out) (fun x hx => (H5.out x (by rw [hrows]; exact hx)).chg HS.out (X := fun _ => False) (Chg.of_below HD.out.below) (HD.out.stay.move Z) (fun _ _ h => h))
        (by rw [← hrows]; exact H6.out) H7.out H8.out (fun x hx => H9.out x (by rw [hrows]; exact hx)) (fun j hj => by rw [← hww]; exact H10.out j hj) hj hF' hc (by simp; have := G5.out; omega)
        (fun x hx => by
          rcases List.mem_append.1 hx with hx | hx
          · exact ⟨(G7.out x hx).1.stay hst, HS.out _ _ _ _ _ _ _ (hst.move Z) (G7.out x hx).2⟩
          · simp at hx; subst hx
            exact ⟨(HQ.out.stay HD.out.stay).stay hst, by rw [hkX]; exact HS.out _ _ _ _ _ _ _ ((HD.out.stay.trans hst).move Z) HV.out⟩)
      obtain ⟨Φ', k1, k2, k3, k4, k5⟩ := key
      obtain ⟨d0, d1, d2⟩ := cell126 k5
      have HFIN := Lib.hid (show ∀ n : Int, PPut B Q Z pa L Φ w (.returned (.tuple #[])) (w2.setCell ⟨pa, 1, none⟩ (.int .i64 n)) from fun n => by
        have := pput_size (n := n) HS.out k1 k2 k3 k4 k5 H7.out
        obtain ⟨a1, a2, a3, a4⟩ := this
        refine ⟨rfl, Φ', a1, by rw [hww]; exact a2, (Chg.of_below (X := Φ) HD.out.below).trans a3 (fun j _ h => h), HD.out.stay.trans a4⟩)
      clear hj hF' hb hc hst hrows hkX k1 k2 k3 k4 k5 hn hww HC
      go_wp2_with fail
      go_end0
      exact HFIN.out _
  | none =>
    have HF := Lib.hid hf
    clear hf
    have HN := Lib.hid newJMapC_any
    go_wp2_with fail
    refine (HN.out _ _ _ _).mono ?_
    rintro e w2 ⟨rfl, hj, hb⟩
    have hsz1 : (w1.alloc (.cells #[] 106)).heap.size = w1.heap.size + 1 := by simp
    have b0 : Below w1.heap.size w1 (w1.alloc (.cells #[] 106)) := (Below.refl _ w1).alloc (Nat.le_refl _) _
    have HB2 := Lib.hid (below_trans (below_trans HD.out.below b0) hb)
    rw [hsz1] at hj hb
    have hww : w1.heap.size = w.heap.size := by rw [HD.out.heap]
    have hBw : B ≤ w.heap.size := by have := H10.out pa H7.out; omega
    rw [hww] at hj hb
    have HJ := Lib.hid (hj.base (show B ≤ w.heap.size + 1 by omega))
    have hb2 := hb.size
    rw [hsz1, hww] at hb2
    have HST2 := Lib.hid (Stay.of_below HB2.out)
    clear hj hb b0 HN
    have HC := Lib.hid (jputC_any B w2 (w.heap.size + 1 + 1) (w.heap.size + 1) [] q v Y.1 Y.2 _ HJ.out (fun x hx => absurd hx (List.not_mem_nil)) (by simp) (HQ.out.ko.stay HST2.out))
    rw [hww]
    go_wp2_with fail
    refine HC.out.mono ?_
    rintro e w3 (⟨u, hu, _⟩ | ⟨_, rfl, a, F', hj3, hF3, _, hc3⟩)
    · cases hu
    have hst3 := stay_of_jx HJ.out (by simp [ctxTy]) (by simp [ctxTy]) hc3
    have HST3 := Lib.hid (HST2.out.trans hst3)
    have HC3 := Lib.hid (show Chg (fun j => w.heap.size ≤ j) w w3 from (Chg.of_below (X := fun j => w.heap.size ≤ j) HB2.out).trans (hc3.mono (fun j h => h.1)) (fun j _ h => by rcases h with rfl | rfl <;> omega))
    have HJ3 := Lib.hid hj3
    have HF3 := Lib.hid (show ∀ j, F' j → w.heap.size ≤ j from fun j hj => by
      rcases hF3 j hj with h | h
      · rcases h with rfl | rfl <;> omega
      · omega)
    have hFlt := H3.out.lt
    have HJB3 := Lib.hid (H3.out.chg HC3.out (fun j hj => by have := hFlt j hj; omega))
    have H13 := Lib.hid (HC3.out.heap H1.out (by have := (H10.out pa H7.out).2; omega))
    have c03 : w3.cell? ⟨pa, 0, none⟩ = some (.pointer (some ⟨s, 0, none⟩)) := cell_of H13.out 0
    have HO := Lib.hid (jputB_any B w3 s m (rows.map (·.1)) p ⟨w.heap.size + 1 + 1, 0, none⟩ X.1 X.2 F HJB3.out (fun x hx => (HAK.out x hx).stay HST3.out) (by simp; have := H4.out; omega) (HP.out.ko.stay HST3.out))
    clear hj3 hF3 hc3 hst3 hFlt HC
    go_wp2_with fail
    refine HO.out.mono ?_
    rintro e w4 (⟨u, hu, _⟩ | ⟨_, rfl, a2, F2, hj4, hF4, _, hc4⟩)
    · rw [HF.out] at hu; cases hu
    have hst4 := stay_of_jx HJB3.out (by simp [ctxTy]) (by simp [ctxTy]) hc4
    have hcF : Chg F w3 w4 := hc4.mono (fun _ h => h.1)
    have hsz3 := HC3.out.size
    have hpa4 := hcF.heap H13.out H2.out
    have hlt := H3.out.lt
    have hPCM : PCM B Q Z pa (L + 1) (fun j => Φ j ∨ (w.heap.size ≤ j ∧ j < w4.heap.size)) w4 := by
      refine ⟨s, m, F2, rows ++ [((a2, (p, X.1, X.2), ⟨w.heap.size + 1 + 1, 0, none⟩), ⟨w.heap.size + 1 + 1, w.heap.size + 1, [(a, (q, Y.1, Y.2), v)], F'⟩)], size, hpa4, fun h => ?_, ?_, by simp; have := H4.out; omega, ?_, ?_, .inl H7.out, fun j hj => ?_, ?_, ?_⟩
      · rcases hF4 pa h with h | h
        · exact H2.out h
        · have := (H10.out pa H7.out).2; omega
      · rw [List.map_append]; exact hj4
      · intro r hr
        rcases List.mem_append.1 hr with hr | hr
        · have hr0 := H5.out r hr
          have hrl := hr0.2.1.lt
          have hrF := hr0.2.2.1
          obtain ⟨a1, a2', a3, a4, a5, a6⟩ := ((hr0.chg HS.out HC3.out (HST3.out.move Z) (fun j hj => by have := hrl j hj; omega)).chg HS.out hcF (hst4.move Z) hrF)
          exact ⟨a1, a2', fun j hj h2 => by
            rcases hF4 j h2 with h | h
            · exact a3 j hj h
            · have := hrl j hj; omega, a4, by omega, a6⟩
        · simp at hr; subst hr
          refine ⟨rfl, HJ3.out.chg hcF (fun j hj hFj => ?_), fun j hj h2 => ?_, fun h => ?_, by simp, (HP.out.stay HST3.out).stay hst4, fun x hx => ?_⟩
          · have := HF3.out j hj; have := hlt j hFj; omega
          · have h1 := HF3.out j hj
            have h3 := HJ3.out.lt j hj
            rcases hF4 j h2 with h | h
            · have := hlt j h; omega
            · omega
          · have := HF3.out pa h; have := (H10.out pa H7.out).2; omega
          · simp at hx; subst hx
            exact ⟨(HQ.out.stay HST3.out).stay hst4, HS.out _ _ _ _ _ _ _ ((HST3.out.trans hst4).move Z) HV.out⟩
      · rw [List.pairwise_append]
        refine ⟨H6.out, List.pairwise_singleton .., fun x hx y hy j hxj hyj => ?_⟩
        simp at hy; subst hy
        have := HF3.out j hyj
        have := (H5.out x hx).2.1.lt j hxj
        omega
      · rcases hF4 j hj with h | h
        · exact .inl (H8.out j h)
        · exact .inr ⟨by omega, hj4.lt j hj⟩
      · intro r hr j hj
        rcases List.mem_append.1 hr with hr | hr
        · exact .inl (H9.out r hr j hj)
        · simp at hr; subst hr
          exact .inr ⟨HF3.out j hj, Nat.lt_of_lt_of_le (HJ3.out.lt j hj) hcF.size⟩
      · intro j hj
        have := hcF.size
        rcases hj with h | h
        · have := H10.out j h; omega
        · omega
    obtain ⟨d0, d1, d2⟩ := cell126 hpa4
    have HFIN := Lib.hid (show ∀ n : Int, PPut B Q Z pa L Φ w (.returned (.tuple #[])) (w4.setCell ⟨pa, 1, none⟩ (.int .i64 n)) from fun n => by
      have := pput_size (n := n) HS.out hPCM (fun j hj => hj.imp id (fun h => h.1)) (HC3.out.mono (Y := fun j => Φ j ∨ w.heap.size ≤ j) (fun j h => .inr h) |>.trans hcF (fun j _ h => .inl (H8.out j h)) |> fun c => ⟨c.os, c.tape, c.output, c.size, fun j hj hx => c.block j hj (fun h => h.elim hx (fun h => by omega))⟩) (HST3.out.trans hst4) hpa4 H7.out
      obtain ⟨k1, k2, k3, k4⟩ := this
      exact ⟨rfl, _, k1, k2, k3, k4⟩)
    clear hj4 hF4 hc4 hst4 hcF hpa4 hPCM HO hsz3 hlt
    go_wp2_with fail
    go_end0
    exact HFIN.out _
end Go.Proofs.Ytcbabfndfikejaa
namespace Go.Proofs.Ytcbabfndfikejaa
/-- THE MERGE -/
def mg (w : Bool) (x y : Tr) : Tr := mrg w (x.2.size + 1) x y
/-- the merge of two, if it is made -/
def mgA (w : Bool) (f g : Tops) : Tr := mkM (f.len + g.len) (zipT (mg w) f g)
theorem zip_congr {m m' : Tr → Tr → Tr} : ∀ (f g : Tops), (∀ s k a k' b, (s, k, a) ∈ f.list → (s, k', b) ∈ g.list → m (k, a) (k', b) = m' (k, a) (k', b)) → zipT m f g = zipT m' f g
  | .nil, g, _ => by rw [zipT, zipT]
  | .cons s k a r, .nil, _ => by rw [zipT, zipT]
  | .cons s k a r, .cons t k' b r', h => by
    rw [zipT, zipT]
    by_cases e : s = t
    · subst e
      rw [if_pos rfl, if_pos rfl, h s k a k' b (List.mem_cons_self ..) (List.mem_cons_self ..),
        zip_congr (m := m) (m' := m') r r' (fun s k a k' b h1 h2 => h s k a k' b (List.mem_cons_of_mem _ h1) (List.mem_cons_of_mem _ h2))]
    · rw [if_neg e, if_neg e]
      by_cases hlt : s < t
      · rw [if_pos hlt, if_pos hlt, zip_congr (m := m) (m' := m') r (.cons t k' b r') (fun s k a k' b h1 h2 => h s k a k' b (List.mem_cons_of_mem _ h1) h2)]
      · rw [if_neg hlt, if_neg hlt, zip_congr (m := m) (m' := m') (.cons s k a r) r' (fun s k a k' b h1 h2 => h s k a k' b h1 (List.mem_cons_of_mem _ h2))]
termination_by f g => f.len + g.len
decreasing_by all_goals (simp only [Tops.len]; omega)
theorem mrg_mg {w : Bool} {n : Nat} {x y : Tr} (h : x.2.size < n) (hx : Wf x.1 x.2) (hy : Wf y.1 y.2) : mrg w n x y = mg w x y :=
  (mrg_comm w n (y.2.size + 1) x y h (Nat.lt_succ_self _) hx hy).trans (mrg_comm w (x.2.size + 1) (y.2.size + 1) x y (Nat.lt_succ_self _) (Nat.lt_succ_self _) hx hy).symm
theorem mg_comm {w : Bool} {x y : Tr} (hx : Wf x.1 x.2) (hy : Wf y.1 y.2) : mg w x y = mg w y x := mrg_comm w _ _ x y (Nat.lt_succ_self _) (Nat.lt_succ_self _) hx hy
theorem mg_eq (w : Bool) {x y : Tr} (hx : Wf x.1 x.2) (hy : Wf y.1 y.2) : mg w x y = if x = y then x else if w = true ∧ x.1 = 0 then x else if w = true ∧ y.1 = 0 then y else mgA w x.2 y.2 := by
  unfold mg
  rw [mrg]
  unfold mgA
  rw [zip_congr (m := mrg w x.2.size) (m' := mg w) x.2 y.2 (fun s k a k' b h1 h2 => mrg_mg (Tops.list_size h1) (Tops.list_wf hx.2 h1).2 (Tops.list_wf hy.2 h2).2)]
theorem mgA_comm {w : Bool} {f g : Tops} (hf : f.wf) (hg : g.wf) : mgA w f g = mgA w g f := by
  unfold mgA
  rw [Nat.add_comm f.len g.len, zip_comm (m := mg w) (m' := mg w) f g (fun s k a k' b h1 h2 => mg_comm (Tops.list_wf hf h1).2 (Tops.list_wf hg h2).2)]
/-! ### how many new ones -/
/-- what is merged below -/
def pairsT : Tops → Tops → List (Tr × Tr)
  | .nil, _ => []
  | .cons .., .nil => []
  | .cons s k a r, .cons t k' b r' =>
    if s = t then ((k, a), (k', b)) :: pairsT r r'
    else if s < t then pairsT r (.cons t k' b r')
    else pairsT (.cons s k a r) r'
termination_by f g => f.len + g.len
decreasing_by all_goals (simp only [Tops.len]; omega)
end Go.Proofs.Ytcbabfndfikejaa
