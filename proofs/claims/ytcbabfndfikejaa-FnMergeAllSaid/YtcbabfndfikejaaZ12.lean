/- In one: What a merge owes, whatever cache it is handed: each new choice is fine. Condition: the choices lie in memory and are well made. What a merge hands back, in parts; plain facts of the merge of choices with one top. No program in sight but in the walk of a store to the cache. -/
import Derived.Test.YtcbabfndfikejaaZ7
import Derived.Test.YtcbabfndfikejaaZ11
namespace Go.Proofs.Ytcbabfndfikejaa
open Go.RowKit
set_option linter.unusedSimpArgs false
/-- What is below each choice of S is in S; all of it lies outside Z. -/
def ClX (w : World) (Z : Nat → Prop) (S : List Addr) : Prop := ∀ q ∈ S, ∃ g k h ss qs, q = ⟨g, 0, none⟩ ∧ Shape w Z g k h ss qs ∧ ∀ q' ∈ qs, q' ∈ S
theorem ClX.move {w w' : World} {Z Z' : Nat → Prop} {S : List Addr} (h : ClX w Z S) (hm : Move Z Z' w w') : ClX w' Z' S := fun q hq => by
  obtain ⟨g, k, h', ss, qs, h1, h2, h3⟩ := h q hq
  exact ⟨g, k, h', ss, qs, h1, h2.move hm, h3⟩
theorem ClX.stay {w w' : World} {Z : Nat → Prop} {S : List Addr} (h : ClX w Z S) (hs : Stay w w') : ClX w' Z S := h.move (hs.move Z)
theorem ClX.cl {w : World} {Z : Nat → Prop} {S : List Addr} (h : ClX w Z S) : Cl w S := h.move (Z' := NoX) fun _ _ _ _ _ hg => ⟨hg, fun hx => hx⟩
/-- What a cache keeps while a merge runs. -/
structure CacheI (I : (Nat → Prop) → Nat → (Nat → Prop) → World → Prop) : Prop where
  chg : ∀ {Z Z' : Nat → Prop} {L : Nat} {Φ X : Nat → Prop} {w w' : World}, I Z L Φ w → Chg X w w' → Move Z Z' w w' → (∀ j, Φ j → ¬ X j) → I Z' L Φ w'
  mono : ∀ {Z : Nat → Prop} {L L' : Nat} {Φ : Nat → Prop} {w : World}, I Z L Φ w → L ≤ L' → I Z L' Φ w
  lt : ∀ {Z : Nat → Prop} {L : Nat} {Φ : Nat → Prop} {w : World}, I Z L Φ w → ∀ j, Φ j → j < w.heap.size
theorem CacheI.below {I : (Nat → Prop) → Nat → (Nat → Prop) → World → Prop} (h : CacheI I) {Z : Nat → Prop} {L : Nat} {Φ : Nat → Prop} {w w' : World} (hi : I Z L Φ w) (hb : Below w.heap.size w w') : I Z L Φ w' :=
  h.chg (X := fun _ => False) hi (Chg.of_below hb) ((Stay.of_below hb).move Z) (fun _ _ h => h)
/-- no cache -/
def IU : (Nat → Prop) → Nat → (Nat → Prop) → World → Prop := fun _ _ Φ _ => ∀ j, ¬ Φ j
theorem cacheU : CacheI IU := ⟨fun h _ _ _ => h, fun h _ => h, fun h j hj => (h j hj).elim⟩
/-- what is below e is one where it is equal -/
def Shr (w : World) (Z : Nat → Prop) (e : Addr) (f : Tops) : Prop := ∃ g k h ss qs, e = ⟨g, 0, none⟩ ∧ Shape w Z g k h ss qs ∧ ∀ i j s s' k1 a, f.at? i = some (s, k1, a) → f.at? j = some (s', k1, a) → qs[i]? = qs[j]?
theorem Shr.move {w w' : World} {Z Z' : Nat → Prop} {e : Addr} {f : Tops} (h : Shr w Z e f) (hm : Move Z Z' w w') : Shr w' Z' e f := by
  obtain ⟨g, k, h', ss, qs, h1, h2, h3⟩ := h
  exact ⟨g, k, h', ss, qs, h1, h2.move hm, h3⟩
/-- the new choices are fine: each may be new, and what is below it is one where it is equal -/
def Fine (RD : Tr → Prop) (w : World) (Z : Nat → Prop) (E : List Addr) : Prop := ∀ e ∈ E, ∃ t : Tr, Rep w Z e t.1 t.2 ∧ RD t ∧ Shr w Z e t.2
theorem Fine.move {RD : Tr → Prop} {w w' : World} {Z Z' : Nat → Prop} {E : List Addr} (h : Fine RD w Z E) (hm : Move Z Z' w w') : Fine RD w' Z' E := fun e he => by
  obtain ⟨t, h1, h2, h3⟩ := h e he
  exact ⟨t, h1.move hm, h2, h3.move hm⟩
theorem Fine.stay {RD : Tr → Prop} {w w' : World} {Z : Nat → Prop} {E : List Addr} (h : Fine RD w Z E) (hs : Stay w w') : Fine RD w' Z E := h.move (hs.move Z)
theorem Fine.nil {RD : Tr → Prop} {w : World} {Z : Nat → Prop} : Fine RD w Z [] := fun _ he => by cases he
theorem Fine.append {RD : Tr → Prop} {w : World} {Z : Nat → Prop} {E F : List Addr} (h : Fine RD w Z E) (k : Fine RD w Z F) : Fine RD w Z (E ++ F) := fun e he => (List.mem_append.1 he).elim (h e) (k e)
theorem Fine.one {RD : Tr → Prop} {w : World} {Z : Nat → Prop} {e : Addr} {t : Tr} (h1 : Rep w Z e t.1 t.2) (h2 : RD t) (h3 : Shr w Z e t.2) : Fine RD w Z [e] := fun e' he => by
  rw [List.mem_singleton.1 he]; exact ⟨t, h1, h2, h3⟩
/-- which choices may be merged: a relation that goes down -/
structure OkM (wild : Bool) (Ok : Tr → Tr → Prop) : Prop where
  kid : ∀ {x y : Tr}, Ok x y → ∀ {s : Int} {k : Nat} {a : Tops} {k' : Nat} {b : Tops}, (s, k, a) ∈ x.2.list → (s, k', b) ∈ y.2.list → Ok (k, a) (k', b)
  mix : ∀ {x y : Tr}, Ok x y → wild = false → (x.1 = 0 ↔ y.1 = 0)
  two : ∀ {x y : Tr}, Ok x y → (x.1 = 2 → 2 ≤ x.2.len) ∧ (y.1 = 2 → 2 ≤ y.2.len)
/-- what may be new: what is merged of two others -/
def RDs (wild : Bool) (Ok : Tr → Tr → Prop) (t : Tr) : Prop := ∃ x y, Ok x y ∧ t = mg wild x y ∧ t ≠ x ∧ t ≠ y
/-- a fine merge of X and Y lies at q -/
def Qm (wild : Bool) (Ok : Tr → Tr → Prop) (S : List Addr) (Z : Nat → Prop) (w : World) (X Y : Tr) (q : Addr) : Prop := ∃ E : List Addr, Fine (RDs wild Ok) w Z E ∧ q ∈ S ++ E ∧ ClX w Z (S ++ E) ∧ Rep w Z q (mgA wild X.2 Y.2).1 (mgA wild X.2 Y.2).2
theorem Qm.move {wild : Bool} {Ok : Tr → Tr → Prop} {S : List Addr} : QMove (Qm wild Ok S) := fun _ _ _ _ _ _ _ hm ⟨E, h1, h2, h3, h4⟩ => ⟨E, h1.move hm, h2, h3.move hm, h4.move hm⟩
theorem cacheC (B : Nat) (wild : Bool) (Ok : Tr → Tr → Prop) (S : List Addr) (pa : Nat) : CacheI (fun Z => PCM B (Qm wild Ok S) Z pa) :=
  ⟨fun h hc hm hX => h.chg Qm.move hc hm hX, fun h hL => h.mono hL, fun h j hj => by
    obtain ⟨s, m, F, rows, size, _, _, _, _, _, _, _, _, _, h10⟩ := h
    exact (h10 j hj).2⟩
/-- What a merge hands back: a choice with these tops; what is new is fine. -/
def MOut (S : List Addr) (t : Tr) (RD : Tr → Prop) (I : (Nat → Prop) → Nat → (Nat → Prop) → World → Prop) (Z : Nat → Prop) (L : Nat) (Φ : Nat → Prop) (w : World) (e : Ending) (w' : World) : Prop :=
  ∃ (r : Addr) (E : List Addr) (Φ' : Nat → Prop), e = .returned (.pointer (some r)) ∧ Fine RD w' Z E ∧ r ∈ S ++ E ∧ ClX w' Z (S ++ E) ∧ Rep w' Z r t.1 t.2 ∧ I Z L Φ' w' ∧ (∀ j, Φ' j → Φ j ∨ w.heap.size ≤ j) ∧ Chg Φ w w' ∧ Stay w w'
/-- What merge owes for choices of fewer than n tops. -/
def MrgTo (wild : Bool) (Ok : Tr → Tr → Prop) (v : Value) (I : (Nat → Prop) → Nat → (Nat → Prop) → World → Prop) (S : List Addr) (n : Nat) : Prop :=
  ∀ (x y : Tr) (p q : Addr) (w : World) (L : Nat) (Φ Z : Nat → Prop), OldX Z w → x.2.size < n → I Z L Φ w → Rep w Z p x.1 x.2 → Rep w Z q y.1 y.2 → Made 64 x → Made 64 y → Ok x y → p ∈ S → q ∈ S → ClX w Z S → L + x.2.size + 1 ≤ 1000000000 →
    Calls Try.prog 61 #[.pointer (some p), .pointer (some q), .bool wild, v] w (MOut S (mg wild x y) (RDs wild Ok) I Z (L + x.2.size + 1) Φ w)
set_option maxRecDepth 20000 in
theorem root_any (wild : Bool) (p q : Addr) (f g : Tops) (w : World) (hp : Rep w NoX p 1 f) (hq : Rep w NoX q 1 g) : Calls Try.prog 97 #[.pointer (some p), .pointer (some q), .bool wild] w (fun e w' => e = .returned (.pointer none) ∧ w = w') := by
  have H1 := Lib.hid (isEmpty1 NoX p f w hp)
  have H2 := Lib.hid (isEmpty1 NoX q g w hq)
  obtain ⟨a, s, q1, k, sub, rfl, rfl, _, hg⟩ := hp.cells1
  obtain ⟨b, t, q2, k', sub', rfl, rfl, _, hg'⟩ := hq.cells1
  have c1 : w.cell? ⟨a, 1, none⟩ = some (.int .i64 1) := cell_of hg 1
  have d1 : w.cell? ⟨b, 1, none⟩ = some (.int .i64 1) := cell_of hg' 1
  clear hp hq hg hg'
  cases wild
  · go_enter Try.func97, Try.ntmps97
    go_wp2_with fail
    refine H1.out.mono ?_
    rintro e w' ⟨rfl, rfl⟩
    go_wp2_with fail
    refine H1.out.mono ?_
    rintro e w' ⟨rfl, rfl⟩
    go_wp2_with fail
    refine H2.out.mono ?_
    rintro e w' ⟨rfl, rfl⟩
    go_wp2_with fail
    go_ret
    exact ⟨rfl, rfl⟩
  · go_enter Try.func97, Try.ntmps97
    go_wp2_with fail
    go_ret
    exact ⟨rfl, rfl⟩
set_option maxRecDepth 20000 in
theorem create_any (Z : Nat → Prop) (p : Addr) (k : Nat) (f : Tops) (s : Int) (w : World) (hZ : OldX Z w) (hs : s ≤ 1000) (h : Rep w Z p k f) : Calls Try.prog 81 #[.pointer (some p), .int .i64 s] w (NewPostK Z 1 (.cons s k f .nil) [p] w) := by
  have H := Lib.hid (NewSingletonK_any Z p k f s w hZ h)
  have hne : (s == 2147483647) = false := by rw [beq_eq_false_iff_ne]; omega
  have hne2 : ¬ s = 2147483647 := by omega
  clear h hs hZ
  go_enter Try.func81, Try.ntmps81
  go_wp2_with fail
  refine H.out.mono ?_
  rintro e w' ⟨r, rfl, h1, h2, h3, h4⟩
  have HF := Lib.hid (show NewPostK Z 1 (.cons s k f .nil) [p] w (.returned (.pointer (some r))) w' from ⟨r, rfl, h1, h2, h3, h4⟩)
  clear h1 h2 h3 h4
  go_wp2_with fail
  go_ret
  exact HF.out
theorem type_any (p : Addr) (k : Nat) (f : Tops) (w : World) (h : Rep w NoX p k f) : Calls Try.prog 99 #[.pointer (some p)] w (IntPost (k : Nat) w) := by
  obtain ⟨g, rfl, _, c1⟩ := h.cell
  clear h
  go_enter Try.func99, Try.ntmps99
  go_wp2
  go_ret
  exact ⟨rfl, rfl⟩
theorem newNil_any (Z : Nat → Prop) (a a' : Addr) (c c' : Nat) (w : World) (hZ : OldX Z w) : Calls Try.prog 66 #[.slice (some a) 0 c, .slice (some a') 0 c'] w (fun e w' => ∃ p, e = .returned (.pointer (some p)) ∧ KOX w' Z p 2 .nil ∧ KidsX w' Z p [] ∧ Below w.heap.size w w') := by
  go_enter Try.func66, Try.ntmps66
  go_wp2_with (go_at_call 47; refine (murmurInit_any _ _).mono ?_; rintro e w' ⟨rfl, rfl⟩)
  go_loop [5, 14] (fun h i => i = .int .i64 0 ∧ h = .int .i64 1) (fun _ _ => 0)
  case atStart => exact ⟨rfl, rfl⟩
  case round =>
    obtain ⟨rfl, rfl⟩ := hrel
    go_wp2_with fail
    go_loop [5, 25] (fun h i => i = .int .i64 0 ∧ h = .int .i64 1) (fun _ _ => 0)
    case atStart => exact ⟨rfl, rfl⟩
    case round =>
      obtain ⟨rfl, rfl⟩ := hrel
      go_wp2_with (go_at_call 49; refine (murmurFinish_any _ _ _).mono ?_; rintro e w' ⟨rfl, rfl⟩)
      go_ret
      have cell : (w.alloc (Obj.cells #[.int .i64 (murF 1 0), .int .i64 2, .pointer none, .int .i64 0, .slice (some a) 0 c, .slice (some a') 0 c'] 97)).heap[w.heap.size]? = some (.cells #[.int .i64 (hsh 2 .nil), .int .i64 2, .pointer none, .int .i64 0, .slice (some a) 0 c, .slice (some a') 0 c'] 97 (0, 0)) := by
        rw [hsh_array]; exact heap_alloc_new w _
      have hshape : Shape (w.alloc (Obj.cells #[.int .i64 (murF 1 0), .int .i64 2, .pointer none, .int .i64 0, .slice (some a) 0 c, .slice (some a') 0 c'] 97)) Z w.heap.size 2 (hsh 2 .nil) [] [] :=
        ⟨hZ.new, rfl, .inr (.inr ⟨rfl, _, _, _, _, cell, ⟨rfl, fun h => absurd h (by simp)⟩, ⟨rfl, fun h => absurd h (by simp)⟩⟩)⟩
      exact ⟨_, rfl, ⟨⟨w.heap.size, rfl, [], hshape, rfl⟩, .inr ⟨rfl, rfl, w.heap.size, a, c, a', c', rfl, cell⟩⟩, ⟨_, _, _, _, rfl, hshape⟩, (Below.refl _ _).alloc (Nat.le_refl _) _⟩
/-- A choice as an array. -/
def ConvPost (Z : Nat → Prop) (S : List Addr) (k : Nat) (f : Tops) (w : World) (e : Ending) (w' : World) : Prop := ∃ r, e = .returned (.pointer (some r)) ∧ KOX w' Z r 2 f ∧ KidIn w' Z r S ∧ (k = 2 → r ∈ S) ∧ Below w.heap.size w w'
set_option maxRecDepth 20000 in
set_option maxHeartbeats 1000000 in
theorem conv_any (Z : Nat → Prop) (S : List Addr) (k : Nat) (f : Tops) (p : Addr) (w : World) (hZ : OldX Z w) (h : Rep w Z p k f) (hw : Wf k f) (hS : p ∈ S) (hcl : ClX w Z S) : Calls Try.prog 87 #[.pointer (some p)] w (ConvPost Z S k f w) := by
  have HT := Lib.hid (type_any p k f w h.noX)
  rcases hw.1 with ⟨rfl, rfl⟩ | ⟨rfl, hl⟩ | ⟨rfl, hl, hl2⟩
  · clear h hw hS hcl
    go_enter Try.func87, Try.ntmps87
    go_wp2_with fail
    refine HT.out.mono ?_
    rintro e w' ⟨rfl, rfl⟩
    clear HT
    go_wp2_with fail
    refine (newNil_any Z _ _ _ _ _ (hZ.ext (by simp; omega))).mono ?_
    rintro e w' ⟨r, rfl, hk, hkid, hb⟩
    have HF := Lib.hid (show ConvPost Z S 0 .nil w (.returned (.pointer (some r))) w' from ⟨r, rfl, hk, ⟨[], hkid, by simp⟩, fun h => absurd h (by decide), below_trans (((Below.refl _ w).alloc (Nat.le_refl _) _).alloc (by simp) _) hb⟩)
    clear hk hkid hb
    go_wp2_with fail
    go_ret
    exact HF.out
  · obtain ⟨g, qs, hpg, hSh, hsub⟩ := h.kids
    obtain ⟨s, k1, sub, rfl⟩ : ∃ s k1 sub, f = .cons s k1 sub .nil := by
      cases f with
      | nil => simp [Tops.len] at hl
      | cons s kk sub r => cases r with
        | nil => exact ⟨s, kk, sub, rfl⟩
        | cons => simp [Tops.len] at hl
    subst hpg
    obtain ⟨g1, qr, rfl, hr1, hr2⟩ := hsub
    have hr2 : qr = [] := hr2
    subst hr2
    have HQ := Lib.hid (show Rep w Z ⟨g1, 0, none⟩ k1 sub from ⟨g1, rfl, hr1⟩)
    have HQS := Lib.hid (hcl.cl.kid hSh hS (List.mem_singleton.2 rfl))
    have HP := Lib.hid (getParent_any Z g 1 0 _ _ _ _ w hSh (show [(⟨g1, 0, none⟩ : Addr)][0]? = some ⟨g1, 0, none⟩ from rfl))
    have HSH := Lib.hid hSh
    have HW := Lib.hid hw
    clear h hw hS hcl hSh hr1 hl
    go_enter Try.func87, Try.ntmps87
    go_wp2_with fail
    refine HT.out.mono ?_
    rintro e w' ⟨rfl, rfl⟩
    clear HT
    go_wp2_with fail
    refine HP.out.mono ?_
    rintro e w' ⟨rfl, rfl⟩
    clear HP
    go_wp2_with fail
    have hb1 : Below w.heap.size w (w.alloc (.cells #[.pointer (some ⟨g1, 0, none⟩)] 72)) := (Below.refl _ w).alloc (Nat.le_refl _) _
    refine (getRS_any Z g 1 0 _ s _ _ _ (HSH.out.move ((Stay.of_below hb1).move Z)) rfl).mono ?_
    rintro e w' ⟨rfl, rfl⟩
    go_wp2_with fail
    have hb2 : Below w.heap.size w ((w.alloc (.cells #[.pointer (some ⟨g1, 0, none⟩)] 72)).alloc (.cells #[.int .i64 s] 3)) := hb1.alloc (by simp) _
    have hrow1 : Row ((w.alloc (.cells #[.pointer (some ⟨g1, 0, none⟩)] 72)).alloc (.cells #[.int .i64 s] 3)) Z 72 (some ⟨w.heap.size, 0, none⟩) 1 (ptrs [⟨g1, 0, none⟩]) :=
      ⟨rfl, fun _ => ⟨w.heap.size, 0, _, rfl, hZ.new, (heap_old' (by simp)).trans (heap_new' rfl), fun j u hu => by
        cases j with
        | zero => simpa [ptrs] using hu
        | succ j => simp [ptrs] at hu⟩⟩
    have hrow2 : Row ((w.alloc (.cells #[.pointer (some ⟨g1, 0, none⟩)] 72)).alloc (.cells #[.int .i64 s] 3)) Z 3 (some ⟨w.heap.size + 1, 0, none⟩) 1 (ints [s]) :=
      ⟨rfl, fun _ => ⟨w.heap.size + 1, 0, _, rfl, fun h => absurd (hZ _ h) (by omega), heap_new' (by simp), fun j u hu => by
        cases j with
        | zero => simpa [ints] using hu
        | succ j => simp [ints] at hu⟩⟩
    have hq := HQ.out.stay (Stay.of_below hb2)
    obtain ⟨g2, he, hq2⟩ := hq
    cases he
    have HN := Lib.hid (NewArrayK_any Z (some ⟨w.heap.size, 0, none⟩) (some ⟨w.heap.size + 1, 0, none⟩) 1 1 (.cons s k1 sub .nil) [⟨g1, 0, none⟩] _ (hZ.ext (by simp; omega)) hrow1 hrow2 ⟨g1, [], rfl, hq2, rfl⟩ (by simp [Tops.len]))
    have HB2 := Lib.hid hb2
    clear hb1 hb2 hrow1 hrow2 hq2
    refine HN.out.mono ?_
    rintro e w' ⟨r, rfl, hrep, hkid, _, hb⟩
    have HF := Lib.hid (show ConvPost Z S 1 (.cons s k1 sub .nil) w (.returned (.pointer (some r))) w' from ⟨r, rfl, ⟨hrep, .inl ⟨⟨.inr (.inr ⟨rfl, by simp [Tops.len], by simp [Tops.len]⟩), HW.out.2⟩, by decide⟩⟩, ⟨_, hkid, fun q hq => by
      rw [List.mem_singleton.1 hq]; exact HQS.out⟩, fun h => absurd h (by decide), below_trans HB2.out hb⟩)
    clear hrep hkid hb HN
    go_wp2_with fail
    go_ret
    exact HF.out
  · have HF := Lib.hid (show ConvPost Z S 2 f w (.returned (.pointer (some p))) w from by
      obtain ⟨g, k', h', ss, qs, h1, h2, h3⟩ := hcl p hS
      exact ⟨p, rfl, ⟨h, .inl ⟨hw, by decide⟩⟩, ⟨qs, ⟨g, k', h', ss, h1, h2⟩, h3⟩, fun _ => hS, Below.refl _ _⟩)
    clear h hw hS hcl hl hl2
    go_enter Try.func87, Try.ntmps87
    go_wp2_with fail
    refine HT.out.mono ?_
    rintro e w' ⟨rfl, rfl⟩
    clear HT
    go_wp2_with fail
    go_ret
    exact HF.out
end Go.Proofs.Ytcbabfndfikejaa
namespace Go.Proofs.Ytcbabfndfikejaa
open Go.RowKit
set_option linter.unusedSimpArgs false
/-- What a merge hands back, by its address. -/
def MO (S : List Addr) (t : Tr) (RD : Tr → Prop) (I : (Nat → Prop) → Nat → (Nat → Prop) → World → Prop) (Z : Nat → Prop) (L : Nat) (Φ : Nat → Prop) (w : World) (r : Addr) (w' : World) : Prop :=
  ∃ (E : List Addr) (Φ' : Nat → Prop), Fine RD w' Z E ∧ r ∈ S ++ E ∧ ClX w' Z (S ++ E) ∧ Rep w' Z r t.1 t.2 ∧ I Z L Φ' w' ∧ (∀ j, Φ' j → Φ j ∨ w.heap.size ≤ j) ∧ Chg Φ w w' ∧ Stay w w'
section
variable {S : List Addr} {t : Tr} {RD : Tr → Prop} {I : (Nat → Prop) → Nat → (Nat → Prop) → World → Prop} {Z : Nat → Prop} {L : Nat} {Φ : Nat → Prop} {w w' : World} {r : Addr}
theorem MO.out (h : MO S t RD I Z L Φ w r w') : MOut S t RD I Z L Φ w (.returned (.pointer (some r))) w' := by
  obtain ⟨E, Φ', h⟩ := h
  exact ⟨r, E, Φ', rfl, h⟩
theorem MO.below (h : MO S t RD I Z L Φ w r w') (hI : CacheI I) {w2 : World} (hb : Below w'.heap.size w' w2) : MO S t RD I Z L Φ w r w2 := by
  obtain ⟨E, Φ', h1, h2, h3, h4, h5, h6, h7, h8⟩ := h
  exact ⟨E, Φ', h1.stay (Stay.of_below hb), h2, h3.stay (Stay.of_below hb), h4.stay (Stay.of_below hb), hI.below h5 hb, h6, h7.trans (Chg.of_below (X := fun _ => False) hb) (fun _ _ h => h.elim), h8.trans (Stay.of_below hb)⟩
theorem MO.mono (h : MO S t RD I Z L Φ w r w') (hI : CacheI I) {L' : Nat} (hL : L ≤ L') : MO S t RD I Z L' Φ w r w' := by
  obtain ⟨E, Φ', h1, h2, h3, h4, h5, h6, h7, h8⟩ := h
  exact ⟨E, Φ', h1, h2, h3, h4, hI.mono h5 hL, h6, h7, h8⟩
/-- a choice of the list is handed back -/
theorem MO.old {Φ' : Nat → Prop} (h1 : r ∈ S) (h2 : ClX w' Z S) (h3 : Rep w' Z r t.1 t.2) (h4 : I Z L Φ' w') (h5 : ∀ j, Φ' j → Φ j ∨ w.heap.size ≤ j) (h6 : Chg Φ w w') (h7 : Stay w w') : MO S t RD I Z L Φ w r w' :=
  ⟨[], Φ', Fine.nil, by simpa using h1, by simpa using h2, h3, h4, h5, h6, h7⟩
end
theorem ClX.snoc {w : World} {Z : Nat → Prop} {T : List Addr} {r : Addr} (h : ClX w Z T) (hk : KidIn w Z r T) : ClX w Z (T ++ [r]) := by
  intro q hq
  rcases List.mem_append.1 hq with hq | hq
  · obtain ⟨g, k, h', ss, qs, h1, h2, h3⟩ := h q hq
    exact ⟨g, k, h', ss, qs, h1, h2, fun x hx => List.mem_append_left _ (h3 x hx)⟩
  · simp at hq; subst hq
    obtain ⟨rs, ⟨g, k, h', ss, h1, h2⟩, h3⟩ := hk
    exact ⟨g, k, h', ss, rs, h1, h2, fun x hx => List.mem_append_left _ (h3 x hx)⟩
/-- a new choice is handed back, over what a merge below has handed back -/
theorem MO.new {S : List Addr} {t : Tr} {RD : Tr → Prop} {I : (Nat → Prop) → Nat → (Nat → Prop) → World → Prop} {Z : Nat → Prop} {L : Nat} {Φ Φ' : Nat → Prop} {w w1 w' : World} {r : Addr} {E : List Addr} (hI : CacheI I) (hE : Fine RD w1 Z E) (hcl : ClX w1 Z (S ++ E)) (hi : I Z L Φ' w1) (hΦ : ∀ j, Φ' j → Φ j ∨ w.heap.size ≤ j) (hc : Chg Φ w w1) (hs : Stay w w1)
    (hb : Below w1.heap.size w1 w') (hk : KidIn w' Z r (S ++ E)) (hr : Rep w' Z r t.1 t.2) (hrd : RD t) (hsh : Shr w' Z r t.2) : MO S t RD I Z L Φ w r w' := by
  refine ⟨E ++ [r], Φ', (hE.stay (Stay.of_below hb)).append (Fine.one hr hrd hsh), by simp, ?_, hr, hI.below hi hb, hΦ, hc.trans (Chg.of_below (X := fun _ => False) hb) (fun _ _ h => h.elim), hs.trans (Stay.of_below hb)⟩
  rw [← List.append_assoc]
  exact (hcl.stay (Stay.of_below hb)).snoc hk
theorem MO.qm {S : List Addr} {wild : Bool} {Ok : Tr → Tr → Prop} {X Y : Tr} {I : (Nat → Prop) → Nat → (Nat → Prop) → World → Prop} {Z : Nat → Prop} {L : Nat} {Φ : Nat → Prop} {w w' : World} {r : Addr} (h : MO S (mgA wild X.2 Y.2) (RDs wild Ok) I Z L Φ w r w') : Qm wild Ok S Z w' X Y r := by
  obtain ⟨E, Φ', h1, h2, h3, h4, _⟩ := h
  exact ⟨E, h1, h2, h3, h4⟩
/-- A merge is laid in the cache. -/
theorem MO.put {S : List Addr} {wild : Bool} {Ok : Tr → Tr → Prop} {X Y : Tr} {B pa L : Nat} {Z Φ : Nat → Prop} {w w' : World} {r : Addr} (h : MO S (mgA wild X.2 Y.2) (RDs wild Ok) (fun Z => PCM B (Qm wild Ok S) Z pa) Z L Φ w r w') (p q : Addr) (hL : L ≤ 1000000000) (hp : KOX w' Z p X.1 X.2) (hq : KOX w' Z q Y.1 Y.2) :
    Calls Try.prog 98 #[.pointer (some ⟨pa, 0, none⟩), .pointer (some p), .pointer (some q), .pointer (some r)] w' (fun e w2 => e = .returned (.tuple #[]) ∧ MO S (mgA wild X.2 Y.2) (RDs wild Ok) (fun Z => PCM B (Qm wild Ok S) Z pa) Z (L + 1) Φ w r w2) := by
  have hQ := h.qm
  obtain ⟨E, Φ', h1, h2, h3, h4, h5, h6, h7, h8⟩ := h
  refine (pput_any B (Qm wild Ok S) Z pa L Φ' w' p q r X Y h5 Qm.move hL hp hq hQ).mono ?_
  rintro e w2 ⟨rfl, Φ2, k1, k2, k3, k4⟩
  have hsz := h7.size
  refine ⟨rfl, E, Φ2, h1.stay k4, h2, h3.stay k4, h4.stay k4, k1, fun j hj => ?_, h7.trans k3 (fun j hj hx => ?_), h8.trans k4⟩
  · rcases k2 j hj with h | h
    · exact h6 j h
    · exact .inr (by omega)
  · rcases h6 j hx with h | h
    · exact h
    · omega
/-- What was laid in the cache is handed back. -/
theorem MO.got {S : List Addr} {wild : Bool} {Ok : Tr → Tr → Prop} {X Y : Tr} {I : (Nat → Prop) → Nat → (Nat → Prop) → World → Prop} {Z : Nat → Prop} {L : Nat} {Φ : Nat → Prop} {w w' : World} {r : Addr} (hI : CacheI I) (hi : I Z L Φ w) (hd : Dr w w') (h : Qm wild Ok S Z w X Y r) : MO S (mgA wild X.2 Y.2) (RDs wild Ok) I Z L Φ w r w' := by
  obtain ⟨E, h1, h2, h3, h4⟩ := h
  exact ⟨E, Φ, h1.stay hd.stay, h2, h3.stay hd.stay, h4.stay hd.stay, hI.below hi hd.below, fun j hj => .inl hj, Chg.of_below hd.below, hd.stay⟩
theorem MO.from {S : List Addr} {t : Tr} {RD : Tr → Prop} {I : (Nat → Prop) → Nat → (Nat → Prop) → World → Prop} {Z : Nat → Prop} {L : Nat} {Φ : Nat → Prop} {w0 w w' : World} {r : Addr} (h : MO S t RD I Z L Φ w r w') (hd : Dr w0 w) : MO S t RD I Z L Φ w0 r w' := by
  obtain ⟨E, Φ', h1, h2, h3, h4, h5, h6, h7, h8⟩ := h
  have e := hd.heap
  exact ⟨E, Φ', h1, h2, h3, h4, h5, fun j hj => by rw [← e]; exact h6 j hj, (Chg.of_below (X := Φ) hd.below).trans h7 (fun _ _ h => h), hd.stay.trans h8⟩
theorem Qm.comm {S : List Addr} {wild : Bool} {Ok : Tr → Tr → Prop} {X Y : Tr} {Z : Nat → Prop} {w : World} {r : Addr} (hX : X.2.wf) (hY : Y.2.wf) (h : Qm wild Ok S Z w Y X r) : Qm wild Ok S Z w X Y r := by
  obtain ⟨E, h1, h2, h3, h4⟩ := h
  exact ⟨E, h1, h2, h3, by rw [mgA_comm hX hY]; exact h4⟩
/-! ### choices with one top -/
theorem mgA_same (w : Bool) (s : Int) (k k' : Nat) (a b : Tops) : mgA w (.cons s k a .nil) (.cons s k' b .nil) = (1, .cons s (mg w (k, a) (k', b)).1 (mg w (k, a) (k', b)).2 .nil) := by
  unfold mgA mkM
  rw [zipT, if_pos rfl, zipT]
  simp [Tops.len]
theorem mgA_lt (w : Bool) {s t : Int} (k k' : Nat) (a b : Tops) (h : s < t) : mgA w (.cons s k a .nil) (.cons t k' b .nil) = (2, .cons s k a (.cons t k' b .nil)) := by
  have hz : zipT (mg w) (.cons s k a .nil) (.cons t k' b .nil) = .cons s k a (.cons t k' b .nil) := by rw [zipT, if_neg (by omega), if_pos h, zipT]
  unfold mgA mkM
  rw [hz]
  simp [Tops.len]
theorem mgA_gt (w : Bool) {s t : Int} (k k' : Nat) (a b : Tops) (h : t < s) : mgA w (.cons s k a .nil) (.cons t k' b .nil) = (2, .cons t k' b (.cons s k a .nil)) := by
  have hz : zipT (mg w) (.cons s k a .nil) (.cons t k' b .nil) = .cons t k' b (.cons s k a .nil) := by rw [zipT, if_neg (by omega), if_neg (by omega), zipT]
  unfold mgA mkM
  rw [hz]
  simp [Tops.len]
theorem Shr.of {w : World} {Z : Nat → Prop} {r : Addr} {f : Tops} {qs : List Addr} (h : KidsX w Z r qs) (hq : ∀ i j s s' k1 a, f.at? i = some (s, k1, a) → f.at? j = some (s', k1, a) → qs[i]? = qs[j]?) : Shr w Z r f := by
  obtain ⟨g, k, h', ss, e, hs⟩ := h
  exact ⟨g, k, h', ss, qs, e, hs, hq⟩
theorem Shr.one1 {w : World} {Z : Nat → Prop} {r q : Addr} {s : Int} {k : Nat} {a : Tops} (h : KidsX w Z r [q]) : Shr w Z r (.cons s k a .nil) := Shr.of h fun i j s1 s2 k1 a1 h1 h2 => by
  have key : ∀ i x, (Tops.cons s k a .nil).at? i = some x → i = 0 := fun i x h => by
    cases i with
    | zero => rfl
    | succ i => simp [Tops.at?] at h
  rw [key i _ h1, key j _ h2]
theorem Shr.two {w : World} {Z : Nat → Prop} {r q1 q2 : Addr} {s t : Int} {k1 k2 : Nat} {a1 a2 : Tops} (h : KidsX w Z r [q1, q2]) (he : k1 = k2 ∧ a1 = a2 → q1 = q2) : Shr w Z r (.cons s k1 a1 (.cons t k2 a2 .nil)) := Shr.of h fun i j s1 s2 k a h1 h2 => by
  have key : ∀ i x, (Tops.cons s k1 a1 (.cons t k2 a2 .nil)).at? i = some x → i = 0 ∧ x = (s, k1, a1) ∨ i = 1 ∧ x = (t, k2, a2) := fun i x h => by
    match i, h with
    | 0, h => simp [Tops.at?] at h; exact .inl ⟨rfl, h.symm⟩
    | 1, h => simp [Tops.at?] at h; exact .inr ⟨rfl, h.symm⟩
    | i + 2, h => simp [Tops.at?] at h
  rcases key i _ h1 with ⟨rfl, e1⟩ | ⟨rfl, e1⟩ <;> rcases key j _ h2 with ⟨rfl, e2⟩ | ⟨rfl, e2⟩
  · rfl
  · cases e1; cases e2
    rw [show q1 = q2 from he ⟨rfl, rfl⟩]; rfl
  · cases e1; cases e2
    rw [show q1 = q2 from he ⟨rfl, rfl⟩]; rfl
  · rfl
/-- an array of two -/
theorem newTwo_any (Z : Nat → Prop) (gi gp : Nat) (lo hi : Int) (u1 u2 : Addr) (k1 k2 : Nat) (a1 a2 : Tops) (w : World) (hZ : OldX Z w) (z1 : ¬ Z gi) (z2 : ¬ Z gp) (h1 : w.heap[gi]? = some (.cells #[.int .i64 lo, .int .i64 hi] 3 (0, 0))) (h2 : w.heap[gp]? = some (.cells #[.pointer (some u1), .pointer (some u2)] 72 (0, 0)))
    (r1 : Rep w Z u1 k1 a1) (r2 : Rep w Z u2 k2 a2) : Calls Try.prog 66 #[.slice (some ⟨gp, 0, none⟩) 2 2, .slice (some ⟨gi, 0, none⟩) 2 2] w (NewPostK Z 2 (.cons lo k1 a1 (.cons hi k2 a2 .nil)) [u1, u2] w) := by
  obtain ⟨b1, e1, q1⟩ := r1
  obtain ⟨b2, e2, q2⟩ := r2
  subst e1
  subst e2
  have hrow1 : Row w Z 72 (some ⟨gp, 0, none⟩) 2 (ptrs [⟨b1, 0, none⟩, ⟨b2, 0, none⟩]) := ⟨rfl, fun _ => ⟨gp, 0, _, rfl, z2, h2, fun j u hu => by
    match j, hu with
    | 0, hu => simpa [ptrs] using hu
    | 1, hu => simpa [ptrs] using hu
    | j + 2, hu => simp [ptrs] at hu⟩⟩
  have hrow2 : Row w Z 3 (some ⟨gi, 0, none⟩) 2 (ints [lo, hi]) := ⟨rfl, fun _ => ⟨gi, 0, _, rfl, z1, h1, fun j u hu => by
    match j, hu with
    | 0, hu => simpa [ints] using hu
    | 1, hu => simpa [ints] using hu
    | j + 2, hu => simp [ints] at hu⟩⟩
  exact NewArrayK_any Z (some ⟨gp, 0, none⟩) (some ⟨gi, 0, none⟩) 2 2 (.cons lo k1 a1 (.cons hi k2 a2 .nil)) [⟨b1, 0, none⟩, ⟨b2, 0, none⟩] w hZ hrow1 hrow2 ⟨b1, _, rfl, q1, b2, _, rfl, q2, rfl⟩ (by simp [Tops.len])
/-- what a merge of arrays is like: of which kind the one that it is equal to has been -/
theorem arr_kind (w : Bool) {k k' : Nat} {f g : Tops} (hx : Wf k f) (hy : Wf k' g) (h0 : ¬ (k = 0 ∨ k' = 0)) (h2 : (k = 2 → 2 ≤ f.len) ∧ (k' = 2 → 2 ≤ g.len)) (hk : ¬ (k = 1 ∧ k' = 1)) :
    (mgA w f g = (2, f) → k = 2) ∧ (mgA w f g = (2, g) → k' = 2) ∧ (mgA w f g ≠ (2, f) → mgA w f g ≠ (k, f)) ∧ (mgA w f g ≠ (2, g) → mgA w f g ≠ (k', g)) := by
  have hz := zip_len (m := mg w) f g
  have kf : k = 1 ∧ f.len = 1 ∨ k = 2 ∧ 2 ≤ f.len := by
    rcases hx.1 with ⟨h, _⟩ | ⟨h, hl⟩ | ⟨h, _, _⟩
    · exact absurd (.inl h) h0
    · exact .inl ⟨h, hl⟩
    · exact .inr ⟨h, h2.1 h⟩
  have kg : k' = 1 ∧ g.len = 1 ∨ k' = 2 ∧ 2 ≤ g.len := by
    rcases hy.1 with ⟨h, _⟩ | ⟨h, hl⟩ | ⟨h, _, _⟩
    · exact absurd (.inr h) h0
    · exact .inl ⟨h, hl⟩
    · exact .inr ⟨h, h2.2 h⟩
  have hl : 2 ≤ (zipT (mg w) f g).len := by
    rcases kf with ⟨a1, a2⟩ | ⟨a1, a2⟩
    · rcases kg with ⟨b1, b2⟩ | ⟨b1, b2⟩
      · exact absurd ⟨a1, b1⟩ hk
      · omega
    · omega
  have e : mgA w f g = (2, zipT (mg w) f g) := by
    unfold mgA mkM
    rw [if_neg (by omega)]
  rw [e]
  refine ⟨fun h => ?_, fun h => ?_, fun h1 h3 => ?_, fun h1 h3 => ?_⟩
  · rw [Prod.mk.injEq] at h
    rw [h.2] at hl
    rcases kf with ⟨a1, a2⟩ | ⟨a1, a2⟩
    · omega
    · exact a1
  · rw [Prod.mk.injEq] at h
    rw [h.2] at hl
    rcases kg with ⟨a1, a2⟩ | ⟨a1, a2⟩
    · omega
    · exact a1
  · rw [Prod.mk.injEq] at h3
    exact h1 (by rw [h3.2])
  · rw [Prod.mk.injEq] at h3
    exact h1 (by rw [h3.2])
end Go.Proofs.Ytcbabfndfikejaa
