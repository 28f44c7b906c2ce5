/- What a merge owes, whatever cache it is handed; the walks of what it calls beside the cache. Condition: the choices lie in memory and are well made. -/
import Derived.Test.YtcbabfndfikejaaPcm2
import Derived.Test.YtcbabfndfikejaaCnt
import Derived.Test.YtcbabfndfikejaaItself
namespace Go.Proofs.Ytcbabfndfikejaa
open Go.RowKit
set_option linter.unusedSimpArgs false

/-- What is below each choice of S is in S; all of it lies outside Z. -/
def ClX (w : World) (Z : Nat → Prop) (S : List Addr) : Prop := ∀ q ∈ S, ∃ g k h ss qs, q = ⟨g, 0, none⟩ ∧ Shape w Z g k h ss qs ∧ ∀ q' ∈ qs, q' ∈ S
theorem ClX.move {w w' : World} {Z Z' : Nat → Prop} {S : List Addr} (h : ClX w Z S) (hm : Move Z Z' w w') : ClX w' Z' S := fun q hq => by
  obtain ⟨g, k, h', ss, qs, h1, h2, h3⟩ := h q hq
  exact ⟨g, k, h', ss, qs, h1, h2.move hm, h3⟩
theorem ClX.stay {w w' : World} {Z : Nat → Prop} {S : List Addr} (h : ClX w Z S) (hs : Stay w w') : ClX w' Z S := h.move (hs.move Z)
theorem ClX.cl {w : World} {Z : Nat → Prop} {S : List Addr} (h : ClX w Z S) : Cl w S := h.move (Z' := NoX) fun _ _ _ _ _ hg => ⟨hg, fun hx => hx⟩
/-- What a cache keeps while a merge runs. -/
structure CacheI (I : (Nat → Prop) → Nat → (Nat → Prop) → World → Prop) : Prop where
  chg : ∀ {Z Z' : Nat → Prop} {L : Nat} {Φ X : Nat → Prop} {w w' : World}, I Z L Φ w → Chg X w w' → Move Z Z' w w' → (∀ j, Φ j → ¬ X j) → I Z' L Φ w'
  mono : ∀ {Z : Nat → Prop} {L L' : Nat} {Φ : Nat → Prop} {w : World}, I Z L Φ w → L ≤ L' → I Z L' Φ w
  lt : ∀ {Z : Nat → Prop} {L : Nat} {Φ : Nat → Prop} {w : World}, I Z L Φ w → ∀ j, Φ j → j < w.heap.size
theorem CacheI.below {I : (Nat → Prop) → Nat → (Nat → Prop) → World → Prop} (h : CacheI I) {Z : Nat → Prop} {L : Nat} {Φ : Nat → Prop} {w w' : World} (hi : I Z L Φ w) (hb : Below w.heap.size w w') : I Z L Φ w' :=
  h.chg (X := fun _ => False) hi (Chg.of_below hb) ((Stay.of_below hb).move Z) (fun _ _ h => h)
/-- no cache -/
def IU : (Nat → Prop) → Nat → (Nat → Prop) → World → Prop := fun _ _ Φ _ => ∀ j, ¬ Φ j
theorem cacheU : CacheI IU := ⟨fun h _ _ _ => h, fun h _ => h, fun h j hj => (h j hj).elim⟩
/-- a fine merge of X and Y lies at q -/
def Qm (wild : Bool) (S : List Addr) (Z : Nat → Prop) (w : World) (X Y : Tr) (q : Addr) : Prop := ∃ E : List Addr, E.length ≤ cnA wild X.2 Y.2 ∧ q ∈ S ++ E ∧ ClX w Z (S ++ E) ∧ Rep w Z q (mgA wild X.2 Y.2).1 (mgA wild X.2 Y.2).2
theorem Qm.move {wild : Bool} {S : List Addr} : QMove (Qm wild S) := fun _ _ _ _ _ _ _ hm ⟨E, h1, h2, h3, h4⟩ => ⟨E, h1, h2, h3.move hm, h4.move hm⟩
theorem cacheC (B : Nat) (wild : Bool) (S : List Addr) (pa : Nat) : CacheI (fun Z => PCM B (Qm wild S) Z pa) :=
  ⟨fun h hc hm hX => h.chg Qm.move hc hm hX, fun h hL => h.mono hL, fun h j hj => by
    obtain ⟨s, m, F, rows, size, _, _, _, _, _, _, _, _, _, h10⟩ := h
    exact (h10 j hj).2⟩
/-- What a merge hands back: a choice with these tops, that needs at most N new ones. -/
def MOut (S : List Addr) (t : Tr) (N : Nat) (I : (Nat → Prop) → Nat → (Nat → Prop) → World → Prop) (Z : Nat → Prop) (L : Nat) (Φ : Nat → Prop) (w : World) (e : Ending) (w' : World) : Prop :=
  ∃ (r : Addr) (E : List Addr) (Φ' : Nat → Prop), e = .returned (.pointer (some r)) ∧ E.length ≤ N ∧ r ∈ S ++ E ∧ ClX w' Z (S ++ E) ∧ Rep w' Z r t.1 t.2 ∧ I Z L Φ' w' ∧ (∀ j, Φ' j → Φ j ∨ w.heap.size ≤ j) ∧ Chg Φ w w' ∧ Stay w w'
/-- What merge owes for choices of fewer than n tops. -/
def MrgTo (wild : Bool) (v : Value) (I : (Nat → Prop) → Nat → (Nat → Prop) → World → Prop) (S : List Addr) (n : Nat) : Prop :=
  ∀ (x y : Tr) (p q : Addr) (w : World) (L : Nat) (Φ Z : Nat → Prop), OldX Z w → x.2.size < n → I Z L Φ w → Rep w Z p x.1 x.2 → Rep w Z q y.1 y.2 → Made 64 x → Made 64 y → p ∈ S → q ∈ S → ClX w Z S → L + x.2.size + 1 ≤ 1000000000 →
    Calls Try.prog 61 #[.pointer (some p), .pointer (some q), .bool wild, v] w (MOut S (mg wild x y) (cn wild x y) I Z (L + x.2.size + 1) Φ w)

set_option maxRecDepth 20000 in
theorem root_any (wild : Bool) (p q : Addr) (f g : Tops) (w : World) (hp : Rep w NoX p 1 f) (hq : Rep w NoX q 1 g) : Calls Try.prog 97 #[.pointer (some p), .pointer (some q), .bool wild] w (fun e w' => e = .returned (.pointer none) ∧ w = w') := by
  have H1 := Lib.hid (isEmpty1 NoX p f w hp)
  have H2 := Lib.hid (isEmpty1 NoX q g w hq)
  obtain ⟨a, s, q1, k, sub, rfl, rfl, _, hg⟩ := hp.cells1
  obtain ⟨b, t, q2, k', sub', rfl, rfl, _, hg'⟩ := hq.cells1
  have c1 : w.cell? ⟨a, 1, none⟩ = some (.int .i64 1) := cell_of hg 1
  have d1 : w.cell? ⟨b, 1, none⟩ = some (.int .i64 1) := cell_of hg' 1
  clear hp hq hg hg'
  cases wild
  · go_enter Try.func97, Try.ntmps97
    go_wp2_with fail
    refine H1.out.mono ?_
    rintro e w' ⟨rfl, rfl⟩
    go_wp2_with fail
    refine H1.out.mono ?_
    rintro e w' ⟨rfl, rfl⟩
    go_wp2_with fail
    refine H2.out.mono ?_
    rintro e w' ⟨rfl, rfl⟩
    go_wp2_with fail
    go_ret
    exact ⟨rfl, rfl⟩
  · go_enter Try.func97, Try.ntmps97
    go_wp2_with fail
    go_ret
    exact ⟨rfl, rfl⟩
set_option maxRecDepth 20000 in
theorem create_any (Z : Nat → Prop) (p : Addr) (k : Nat) (f : Tops) (s : Int) (w : World) (hZ : OldX Z w) (hs : s ≤ 1000) (h : Rep w Z p k f) : Calls Try.prog 81 #[.pointer (some p), .int .i64 s] w (NewPostK Z 1 (.cons s k f .nil) [p] w) := by
  have H := Lib.hid (NewSingletonK_any Z p k f s w hZ h)
  have hne : (s == 2147483647) = false := by rw [beq_eq_false_iff_ne]; omega
  have hne2 : ¬ s = 2147483647 := by omega
  clear h hs hZ
  go_enter Try.func81, Try.ntmps81
  go_wp2_with fail
  refine H.out.mono ?_
  rintro e w' ⟨r, rfl, h1, h2, h3, h4⟩
  have HF := Lib.hid (show NewPostK Z 1 (.cons s k f .nil) [p] w (.returned (.pointer (some r))) w' from ⟨r, rfl, h1, h2, h3, h4⟩)
  clear h1 h2 h3 h4
  go_wp2_with fail
  go_ret
  exact HF.out
theorem type_any (p : Addr) (k : Nat) (f : Tops) (w : World) (h : Rep w NoX p k f) : Calls Try.prog 99 #[.pointer (some p)] w (IntPost (k : Nat) w) := by
  obtain ⟨g, rfl, _, c1⟩ := h.cell
  clear h
  go_enter Try.func99, Try.ntmps99
  go_wp2
  go_ret
  exact ⟨rfl, rfl⟩
theorem newNil_any (Z : Nat → Prop) (a a' : Addr) (c c' : Nat) (w : World) (hZ : OldX Z w) : Calls Try.prog 66 #[.slice (some a) 0 c, .slice (some a') 0 c'] w (fun e w' => ∃ p, e = .returned (.pointer (some p)) ∧ KOX w' Z p 2 .nil ∧ KidsX w' Z p [] ∧ Below w.heap.size w w') := by
  go_enter Try.func66, Try.ntmps66
  go_wp2_with (go_at_call 47; refine (murmurInit_any _ _).mono ?_; rintro e w' ⟨rfl, rfl⟩)
  go_loop [5, 14] (fun h i => i = .int .i64 0 ∧ h = .int .i64 1) (fun _ _ => 0)
  case atStart => exact ⟨rfl, rfl⟩
  case round =>
    obtain ⟨rfl, rfl⟩ := hrel
    go_wp2_with fail
    go_loop [5, 25] (fun h i => i = .int .i64 0 ∧ h = .int .i64 1) (fun _ _ => 0)
    case atStart => exact ⟨rfl, rfl⟩
    case round =>
      obtain ⟨rfl, rfl⟩ := hrel
      go_wp2_with (go_at_call 49; refine (murmurFinish_any _ _ _).mono ?_; rintro e w' ⟨rfl, rfl⟩)
      go_ret
      have cell : (w.alloc (Obj.cells #[.int .i64 (murF 1 0), .int .i64 2, .pointer none, .int .i64 0, .slice (some a) 0 c, .slice (some a') 0 c'] 97)).heap[w.heap.size]? = some (.cells #[.int .i64 (hsh 2 .nil), .int .i64 2, .pointer none, .int .i64 0, .slice (some a) 0 c, .slice (some a') 0 c'] 97 (0, 0)) := by
        rw [hsh_array]; exact heap_alloc_new w _
      have hshape : Shape (w.alloc (Obj.cells #[.int .i64 (murF 1 0), .int .i64 2, .pointer none, .int .i64 0, .slice (some a) 0 c, .slice (some a') 0 c'] 97)) Z w.heap.size 2 (hsh 2 .nil) [] [] :=
        ⟨hZ.new, rfl, .inr (.inr ⟨rfl, _, _, _, _, cell, ⟨rfl, fun h => absurd h (by simp)⟩, ⟨rfl, fun h => absurd h (by simp)⟩⟩)⟩
      exact ⟨_, rfl, ⟨⟨w.heap.size, rfl, [], hshape, rfl⟩, .inr ⟨rfl, rfl, w.heap.size, a, c, a', c', rfl, cell⟩⟩, ⟨_, _, _, _, rfl, hshape⟩, (Below.refl _ _).alloc (Nat.le_refl _) _⟩
/-- A choice as an array. -/
def ConvPost (Z : Nat → Prop) (S : List Addr) (f : Tops) (w : World) (e : Ending) (w' : World) : Prop := ∃ r, e = .returned (.pointer (some r)) ∧ KOX w' Z r 2 f ∧ KidIn w' Z r S ∧ Below w.heap.size w w'
set_option maxRecDepth 20000 in
set_option maxHeartbeats 1000000 in
theorem conv_any (Z : Nat → Prop) (S : List Addr) (k : Nat) (f : Tops) (p : Addr) (w : World) (hZ : OldX Z w) (h : Rep w Z p k f) (hw : Wf k f) (hS : p ∈ S) (hcl : ClX w Z S) : Calls Try.prog 87 #[.pointer (some p)] w (ConvPost Z S f w) := by
  have HT := Lib.hid (type_any p k f w h.noX)
  rcases hw.1 with ⟨rfl, rfl⟩ | ⟨rfl, hl⟩ | ⟨rfl, hl, hl2⟩
  · clear h hw hS hcl
    go_enter Try.func87, Try.ntmps87
    go_wp2_with fail
    refine HT.out.mono ?_
    rintro e w' ⟨rfl, rfl⟩
    clear HT
    go_wp2_with fail
    refine (newNil_any Z _ _ _ _ _ (hZ.ext (by simp; omega))).mono ?_
    rintro e w' ⟨r, rfl, hk, hkid, hb⟩
    have HF := Lib.hid (show ConvPost Z S .nil w (.returned (.pointer (some r))) w' from ⟨r, rfl, hk, ⟨[], hkid, by simp⟩, below_trans (((Below.refl _ w).alloc (Nat.le_refl _) _).alloc (by simp) _) hb⟩)
    clear hk hkid hb
    go_wp2_with fail
    go_ret
    exact HF.out
  · obtain ⟨g, qs, hpg, hSh, hsub⟩ := h.kids
    obtain ⟨s, k1, sub, rfl⟩ : ∃ s k1 sub, f = .cons s k1 sub .nil := by
      cases f with
      | nil => simp [Tops.len] at hl
      | cons s kk sub r => cases r with
        | nil => exact ⟨s, kk, sub, rfl⟩
        | cons => simp [Tops.len] at hl
    subst hpg
    obtain ⟨g1, qr, rfl, hr1, hr2⟩ := hsub
    have hr2 : qr = [] := hr2
    subst hr2
    have HQ := Lib.hid (show Rep w Z ⟨g1, 0, none⟩ k1 sub from ⟨g1, rfl, hr1⟩)
    have HQS := Lib.hid (hcl.cl.kid hSh hS (List.mem_singleton.2 rfl))
    have HP := Lib.hid (getParent_any Z g 1 0 _ _ _ _ w hSh (show [(⟨g1, 0, none⟩ : Addr)][0]? = some ⟨g1, 0, none⟩ from rfl))
    have HSH := Lib.hid hSh
    have HW := Lib.hid hw
    clear h hw hS hcl hSh hr1 hl
    go_enter Try.func87, Try.ntmps87
    go_wp2_with fail
    refine HT.out.mono ?_
    rintro e w' ⟨rfl, rfl⟩
    clear HT
    go_wp2_with fail
    refine HP.out.mono ?_
    rintro e w' ⟨rfl, rfl⟩
    clear HP
    go_wp2_with fail
    have hb1 : Below w.heap.size w (w.alloc (.cells #[.pointer (some ⟨g1, 0, none⟩)] 72)) := (Below.refl _ w).alloc (Nat.le_refl _) _
    refine (getRS_any Z g 1 0 _ s _ _ _ (HSH.out.move ((Stay.of_below hb1).move Z)) rfl).mono ?_
    rintro e w' ⟨rfl, rfl⟩
    go_wp2_with fail
    have hb2 : Below w.heap.size w ((w.alloc (.cells #[.pointer (some ⟨g1, 0, none⟩)] 72)).alloc (.cells #[.int .i64 s] 3)) := hb1.alloc (by simp) _
    have hrow1 : Row ((w.alloc (.cells #[.pointer (some ⟨g1, 0, none⟩)] 72)).alloc (.cells #[.int .i64 s] 3)) Z 72 (some ⟨w.heap.size, 0, none⟩) 1 (ptrs [⟨g1, 0, none⟩]) :=
      ⟨rfl, fun _ => ⟨w.heap.size, 0, _, rfl, hZ.new, (heap_old' (by simp)).trans (heap_new' rfl), fun j u hu => by
        cases j with
        | zero => simpa [ptrs] using hu
        | succ j => simp [ptrs] at hu⟩⟩
    have hrow2 : Row ((w.alloc (.cells #[.pointer (some ⟨g1, 0, none⟩)] 72)).alloc (.cells #[.int .i64 s] 3)) Z 3 (some ⟨w.heap.size + 1, 0, none⟩) 1 (ints [s]) :=
      ⟨rfl, fun _ => ⟨w.heap.size + 1, 0, _, rfl, fun h => absurd (hZ _ h) (by omega), heap_new' (by simp), fun j u hu => by
        cases j with
        | zero => simpa [ints] using hu
        | succ j => simp [ints] at hu⟩⟩
    have hq := HQ.out.stay (Stay.of_below hb2)
    obtain ⟨g2, he, hq2⟩ := hq
    cases he
    have HN := Lib.hid (NewArrayK_any Z (some ⟨w.heap.size, 0, none⟩) (some ⟨w.heap.size + 1, 0, none⟩) 1 1 (.cons s k1 sub .nil) [⟨g1, 0, none⟩] _ (hZ.ext (by simp; omega)) hrow1 hrow2 ⟨g1, [], rfl, hq2, rfl⟩ (by simp [Tops.len]))
    have HB2 := Lib.hid hb2
    clear hb1 hb2 hrow1 hrow2 hq2
    refine HN.out.mono ?_
    rintro e w' ⟨r, rfl, hrep, hkid, _, hb⟩
    have HF := Lib.hid (show ConvPost Z S (.cons s k1 sub .nil) w (.returned (.pointer (some r))) w' from ⟨r, rfl, ⟨hrep, .inl ⟨⟨.inr (.inr ⟨rfl, by simp [Tops.len], by simp [Tops.len]⟩), HW.out.2⟩, by decide⟩⟩, ⟨_, hkid, fun q hq => by
      rw [List.mem_singleton.1 hq]; exact HQS.out⟩, below_trans HB2.out hb⟩)
    clear hrep hkid hb HN
    go_wp2_with fail
    go_ret
    exact HF.out
  · have HF := Lib.hid (show ConvPost Z S f w (.returned (.pointer (some p))) w from by
      obtain ⟨g, k', h', ss, qs, h1, h2, h3⟩ := hcl p hS
      exact ⟨p, rfl, ⟨h, .inl ⟨hw, by decide⟩⟩, ⟨qs, ⟨g, k', h', ss, h1, h2⟩, h3⟩, Below.refl _ _⟩)
    clear h hw hS hcl hl hl2
    go_enter Try.func87, Try.ntmps87
    go_wp2_with fail
    refine HT.out.mono ?_
    rintro e w' ⟨rfl, rfl⟩
    clear HT
    go_wp2_with fail
    go_ret
    exact HF.out
end Go.Proofs.Ytcbabfndfikejaa
