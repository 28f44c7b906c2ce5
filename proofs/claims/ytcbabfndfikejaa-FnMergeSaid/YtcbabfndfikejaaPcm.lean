/- The cache of merges (JPCMap): how it lies in memory, the walks of its making, of Get and of Put. Condition: the keys lie in memory. -/
import Derived.Test.YtcbabfndfikejaaJmB
import Derived.Test.YtcbabfndfikejaaJmC
import Derived.Test.YtcbabfndfikejaaEqX
import Derived.Test.YtcbabfndfikejaaQ2
namespace Go.Proofs.Ytcbabfndfikejaa
open Go.RowKit
set_option linter.unusedSimpArgs false

/-- A key lies at p, outside Z. -/
def KOX (w : World) (Z : Nat → Prop) (p : Addr) (k : Nat) (f : Tops) : Prop := Rep w Z p k f ∧ ((Wf k f ∧ k ≠ 0) ∨ (k = 2 ∧ f = .nil ∧ Nil2 w p))
theorem KOX.ko {w : World} {Z : Nat → Prop} {p : Addr} {k : Nat} {f : Tops} (h : KOX w Z p k f) : KO w p k f := ⟨h.1.noX, h.2⟩
theorem KOX.move {w w' : World} {Z Z' : Nat → Prop} {p : Addr} {k : Nat} {f : Tops} (h : KOX w Z p k f) (hm : Move Z Z' w w') : KOX w' Z' p k f := by
  refine ⟨h.1.move hm, h.2.imp id ?_⟩
  rintro ⟨h1, h2, g, a, c, a', c', h3, h4⟩
  obtain ⟨g', _, _, _, _, e, hx, _⟩ := h.1.head
  rw [h3] at e
  cases e
  exact ⟨h1, h2, g, a, c, a', c', h3, (hm _ _ _ (.inl rfl) hx h4).1⟩
theorem KOX.stay {w w' : World} {Z : Nat → Prop} {p : Addr} {k : Nat} {f : Tops} (h : KOX w Z p k f) (hs : Stay w w') : KOX w' Z p k f := h.move (hs.move Z)
/-- a property of what is kept that moves -/
def QMove (Q : (Nat → Prop) → World → Tr → Tr → Addr → Prop) : Prop := ∀ Z Z' w w' X Y q, Move Z Z' w w' → Q Z w X Y q → Q Z' w' X Y q
/-- the inner store of a key -/
structure In where
  s : Nat
  m : Nat
  es : List Ent
  F : Nat → Prop
abbrev PRow := Ent × In
theorem Chg.mono {X Y : Nat → Prop} {w w' : World} (h : Chg X w w') (hXY : ∀ j, X j → Y j) : Chg Y w w' := ⟨h.os, h.tape, h.output, h.size, fun j hj hy => h.block j hj (fun hx => hy (hXY j hx))⟩
/-- What is kept for a key: its inner store, each pair of which is a fine merge. -/
def RowOk (B : Nat) (Q : (Nat → Prop) → World → Tr → Tr → Addr → Prop) (Z : Nat → Prop) (L : Nat) (w : World) (F : Nat → Prop) (pa : Nat) (r : PRow) : Prop :=
  r.1.2.2 = ⟨r.2.s, 0, none⟩ ∧ JFC B w r.2.s r.2.m r.2.es r.2.F ∧ (∀ j, r.2.F j → ¬ F j) ∧ ¬ r.2.F pa ∧ r.2.es.length ≤ L ∧ KOX w Z r.1.2.1.1 r.1.2.1.2.1 r.1.2.1.2.2 ∧
  ∀ x ∈ r.2.es, KOX w Z x.2.1.1 x.2.1.2.1 x.2.1.2.2 ∧ Q Z w r.1.2.1.2 x.2.1.2 x.2.2
/-- The cache lies at pa, in the blocks Φ; it holds at most L pairs of a kind. -/
def PCM (B : Nat) (Q : (Nat → Prop) → World → Tr → Tr → Addr → Prop) (Z : Nat → Prop) (pa : Nat) (L : Nat) (Φ : Nat → Prop) (w : World) : Prop :=
  ∃ (s m : Nat) (F : Nat → Prop) (rows : List PRow) (size : Int), w.heap[pa]? = some (.cells #[.pointer (some ⟨s, 0, none⟩), .int .i64 size] 126 (0, 0)) ∧ ¬ F pa ∧
    JFB B w s m (rows.map (·.1)) F ∧ rows.length ≤ L ∧ (∀ r ∈ rows, RowOk B Q Z L w F pa r) ∧ rows.Pairwise (fun a b => ∀ j, a.2.F j → ¬ b.2.F j) ∧
    Φ pa ∧ (∀ j, F j → Φ j) ∧ (∀ r ∈ rows, ∀ j, r.2.F j → Φ j) ∧ ∀ j, Φ j → B ≤ j ∧ j < w.heap.size
section
variable {B : Nat} {Q : (Nat → Prop) → World → Tr → Tr → Addr → Prop} {Z Z2 : Nat → Prop} {pa L : Nat} {Φ : Nat → Prop} {w w' : World}
theorem RowOk.chg {F X : Nat → Prop} {r : PRow} (h : RowOk B Q Z L w F pa r) (hQ : QMove Q) (hc : Chg X w w') (hs : Move Z Z2 w w') (hX : ∀ j, r.2.F j → ¬ X j) : RowOk B Q Z2 L w' F pa r := by
  obtain ⟨h1, h2, h3, h4, h5, h6, h7⟩ := h
  exact ⟨h1, h2.chg hc hX, h3, h4, h5, h6.move hs, fun x hx => ⟨(h7 x hx).1.move hs, hQ _ _ _ _ _ _ _ hs (h7 x hx).2⟩⟩
theorem PCM.chg {X : Nat → Prop} (h : PCM B Q Z pa L Φ w) (hQ : QMove Q) (hc : Chg X w w') (hs : Move Z Z2 w w') (hX : ∀ j, Φ j → ¬ X j) : PCM B Q Z2 pa L Φ w' := by
  obtain ⟨s, m, F, rows, size, h1, h2, h3, h4, h5, h6, h7, h8, h9, h10⟩ := h
  exact ⟨s, m, F, rows, size, hc.heap h1 (hX _ h7), h2, h3.chg hc (fun j hj => hX j (h8 j hj)), h4, fun r hr => (h5 r hr).chg hQ hc hs (fun j hj => hX j (h9 r hr j hj)), h6, h7, h8, h9, fun j hj => ⟨(h10 j hj).1, Nat.lt_of_lt_of_le (h10 j hj).2 hc.size⟩⟩
theorem PCM.below (h : PCM B Q Z pa L Φ w) (hQ : QMove Q) (hb : Below w.heap.size w w') : PCM B Q Z pa L Φ w' :=
  h.chg (X := fun _ => False) hQ (Chg.of_below hb) ((Stay.of_below hb).move Z) (fun _ _ h => h)
theorem PCM.mono {L' : Nat} (h : PCM B Q Z pa L Φ w) (hL : L ≤ L') : PCM B Q Z pa L' Φ w := by
  obtain ⟨s, m, F, rows, size, h1, h2, h3, h4, h5, h6, h7⟩ := h
  exact ⟨s, m, F, rows, size, h1, h2, h3, Nat.le_trans h4 hL, fun r hr => by
    obtain ⟨g1, g2, g3, g4, g5, g6⟩ := h5 r hr
    exact ⟨g1, g2, g3, g4, Nat.le_trans g5 hL, g6⟩, h6, h7⟩
theorem PCM.grow {Φ' : Nat → Prop} (h : PCM B Q Z pa L Φ w) (h1 : ∀ j, Φ j → Φ' j) (h2 : ∀ j, Φ' j → B ≤ j ∧ j < w.heap.size) : PCM B Q Z pa L Φ' w := by
  obtain ⟨s, m, F, rows, size, g1, g2, g3, g4, g5, g6, g7, g8, g9, g10⟩ := h
  exact ⟨s, m, F, rows, size, g1, g2, g3, g4, g5, g6, h1 _ g7, fun j hj => h1 _ (g8 j hj), fun r hr j hj => h1 _ (g9 r hr j hj), h2⟩
end
/-- the blocks made from a to b -/
def Mid (a b : World) (j : Nat) : Prop := a.heap.size ≤ j ∧ j < b.heap.size
def PNew (Q : (Nat → Prop) → World → Tr → Tr → Addr → Prop) (Z : Nat → Prop) (w : World) (e : Ending) (w' : World) : Prop := ∃ pa, e = .returned (.pointer (some ⟨pa, 0, none⟩)) ∧ PCM w.heap.size Q Z pa 0 (Mid w w') w' ∧ Below w.heap.size w w'
set_option maxRecDepth 20000 in
theorem newPC_any (Q : (Nat → Prop) → World → Tr → Tr → Addr → Prop) (Z : Nat → Prop) (d : Int) (st : ByteArray) (w : World) : Calls Try.prog 60 #[.int .i64 d, .string st] w (PNew Q Z w) := by
  have HN := Lib.hid newJMapB_any
  go_enter Try.func60, Try.ntmps60
  go_wp2_with fail
  refine (HN.out _ _ _ _).mono ?_
  rintro e w1 ⟨rfl, hj, hb⟩
  have HJ := Lib.hid hj
  have HB := Lib.hid hb
  clear hj hb
  go_wp2_with fail
  go_ret
  have es : (w.alloc (.cells #[] 106)).heap.size = w.heap.size + 1 := by simp
  have b0 : Below w.heap.size w (w.alloc (.cells #[] 106)) := (Below.refl _ w).alloc (Nat.le_refl _) _
  have b1 := below_trans b0 HB.out
  have hb1 := HB.out.size
  have hj2 := HJ.out.below ((Below.refl _ w1).alloc (Nat.le_refl _) (.cells #[.pointer (some ⟨(w.alloc (.cells #[] 106)).heap.size + 1, 0, none⟩), .int .i64 0] 126))
  have hlt := HJ.out.lt
  rw [es] at hj2 hb1 hlt
  have hle : w.heap.size ≤ w.heap.size + 1 := Nat.le_succ _
  refine ⟨w1.heap.size, rfl, ⟨w.heap.size + 1 + 1, w.heap.size + 1, fun j => j = w.heap.size + 1 ∨ j = w.heap.size + 1 + 1, [], 0, heap_new' rfl, fun h => ?_, ?_, Nat.le_refl _, fun r hr => absurd hr (List.not_mem_nil), List.Pairwise.nil, ⟨b1.size, by simp⟩, fun j hj => ?_, fun r hr => absurd hr (List.not_mem_nil), fun j hj => ⟨hj.1, hj.2⟩⟩, b1.alloc b1.size _⟩
  · have := hlt _ h; omega
  · obtain ⟨c, len, T, h1, h2, h3, h4, h5, h6, h7, h8, h9, h10, f⟩ := hj2
    refine ⟨c, len, T, h1, Nat.le_trans hle h2, Nat.le_trans hle h3, h4, h5, h6, fun x hx => ?_, h8, h9, fun x hx => absurd hx (List.not_mem_nil), f⟩
    obtain ⟨⟨l1, l2⟩, l3⟩ := h7 x hx
    refine ⟨⟨l1, l2.imp id ?_⟩, l3⟩
    rintro ⟨g, cap, cur, e1, e2, e3⟩
    exact ⟨g, cap, cur, e1, Nat.le_trans hle e2, e3⟩
  · have := hlt j hj
    refine ⟨by omega, by simp; omega⟩
/-- What a look-up of a pair answers. -/
def PGet (Q : (Nat → Prop) → World → Tr → Tr → Addr → Prop) (Z : Nat → Prop) (X Y : Tr) (w : World) (e : Ending) (w' : World) : Prop := ∃ v : Option Addr, e = .returned (.tuple #[.pointer v, .bool v.isSome]) ∧ Dr w w' ∧ ∀ q, v = some q → Q Z w X Y q
set_option maxRecDepth 20000 in
theorem pget_any (B : Nat) (Q : (Nat → Prop) → World → Tr → Tr → Addr → Prop) (Z : Nat → Prop) (pa L : Nat) (Φ : Nat → Prop) (w : World) (p q : Addr) (X Y : Tr) (h : PCM B Q Z pa L Φ w) (hQ : QMove Q) (hL : L ≤ 1000000000) (hp : KO w p X.1 X.2) (hq : KO w q Y.1 Y.2) :
    Calls Try.prog 96 #[.pointer (some ⟨pa, 0, none⟩), .pointer (some p), .pointer (some q)] w (PGet Q Z X Y w) := by
  obtain ⟨s, m, F, rows, size, h1, h2, h3, h4, h5, h6, _⟩ := h
  have c0 : w.cell? ⟨pa, 0, none⟩ = some (.pointer (some ⟨s, 0, none⟩)) := cell_of h1 0
  have HG := Lib.hid (jgetB_any B w s m (rows.map (·.1)) p X.1 X.2 F h3 (fun x hx => by
    obtain ⟨y, hy, rfl⟩ := List.mem_map.1 hx
    obtain ⟨r, hr, rfl⟩ := List.mem_map.1 hy
    exact (h5 r hr).2.2.2.2.2.1.ko) (by simp; omega) hp)
  have HR := Lib.hid h5
  have HQ := Lib.hid hq
  have HS := Lib.hid hQ
  clear h1 h2 h3 h5 h6 hp hq hQ
  go_enter Try.func96, Try.ntmps96
  go_wp2_with fail
  refine HG.out.mono ?_
  rintro e w1 ⟨rfl, hd⟩
  have HD := Lib.hid hd
  clear hd HG
  cases hf : fstE (rows.map (·.1)) X.1 X.2 with
  | none =>
    clear hf
    go_wp2_with fail
    go_ret2
    exact ⟨none, rfl, HD.out, fun q hq => by cases hq⟩
  | some m2 =>
    obtain ⟨e0, p0, hm⟩ := fstE_some hf
    obtain ⟨r, hr, hre⟩ := List.mem_map.1 hm
    obtain ⟨g1, g2, _, _, g5, _, g7⟩ := HR.out r hr
    rw [hre] at g1 g7
    simp only at g1 g7
    subst g1
    have HC := Lib.hid (jgetC_any B w1 r.2.s r.2.m r.2.es q Y.1 Y.2 r.2.F (g2.dr HD.out) (fun x hx => by
      obtain ⟨y, hy, rfl⟩ := List.mem_map.1 hx
      exact (g7 y hy).1.ko.stay HD.out.stay) (by omega) (HQ.out.stay HD.out.stay))
    have H7 := Lib.hid g7
    clear hf hm hr hre g2 g5 g7
    go_wp2_with fail
    refine HC.out.mono ?_
    rintro e w2 ⟨rfl, hd2⟩
    have HD2 := Lib.hid (HD.out.trans hd2)
    clear hd2 HC
    go_wp2_with fail
    go_ret2
    refine ⟨_, rfl, HD2.out, fun q hq => ?_⟩
    obtain ⟨e1, p1, hm1⟩ := fstE_some hq
    exact (H7.out _ hm1).2
end Go.Proofs.Ytcbabfndfikejaa
