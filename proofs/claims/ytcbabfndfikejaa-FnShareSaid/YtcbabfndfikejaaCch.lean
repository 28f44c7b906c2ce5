/- The cache of choices (PredictionContextCache): the walks of its functions. Condition: the choices lie in memory and are well made. -/
import Derived.Test.YtcbabfndfikejaaVis
namespace Go.Proofs.Ytcbabfndfikejaa
open Go.RowKit
set_option linter.unusedSimpArgs false

/-- The cache lies at ca, its store at s, the store's map at m. -/
def CC (B : Nat) (w : World) (ca s m : Nat) (es : List Ent) : Prop := w.heap[ca]? = some (.cells #[.pointer (some ⟨s, 0, none⟩)] 112 (0, 0)) ∧ B ≤ ca ∧ JMA B w s m es
theorem CC.dr {B : Nat} {w w' : World} {ca s m : Nat} {es : List Ent} (h : CC B w ca s m es) (hd : Dr w w') : CC B w' ca s m es := by obtain ⟨n, rfl⟩ := hd; exact h
theorem CC.chg {X : Nat → Prop} {B : Nat} {w w' : World} {ca s m : Nat} {es : List Ent} (h : CC B w ca s m es) (hc : Chg X w w') (h0 : ¬ X ca) (hs : ¬ X s) (hm : ¬ X m) (hX : ∀ g cs e, w.heap[g]? = some (.cells cs e (0, 0)) → e = 142 ∨ e = 144 → ¬ X g) : CC B w' ca s m es :=
  ⟨hc.heap h.1 h0, h.2.1, h.2.2.chg hc hs hm hX⟩
theorem CC.below {B : Nat} {w w' : World} {ca s m : Nat} {es : List Ent} (h : CC B w ca s m es) (hb : Below w.heap.size w w') : CC B w' ca s m es :=
  h.chg (Chg.of_below (X := fun _ => False) hb) (fun h => h) (fun h => h) (fun h => h) (fun _ _ _ _ _ h => h)
/-- The cache's cell is none that its store writes to. -/
theorem CC.jm {B : Nat} {w w' : World} {ca s m : Nat} {es es' : List Ent} (h : CC B w ca s m es) (hc : Chg (JX 142 w s m) w w') (hj : JMA B w' s m es') : CC B w' ca s m es' := by
  refine ⟨hc.heap h.1 ?_, h.2.1, hj⟩
  obtain ⟨es', cl, hm⟩ := h.2.2.mapBlock
  refine JX.chg ca _ 112 h.1 (by decide) ?_ hm
  rintro rfl
  obtain ⟨c, len, T, h1, _⟩ := h.2.2
  rw [h.1] at h1; cases h1
def CNew (w : World) (e : Ending) (w' : World) : Prop := ∃ ca s m, e = .returned (.pointer (some ⟨ca, 0, none⟩)) ∧ CC w.heap.size w' ca s m [] ∧ Below w.heap.size w w'
set_option maxRecDepth 20000 in
theorem newCache_any (w : World) : Calls Try.prog 55 #[] w (CNew w) := by
  have HN := Lib.hid newJMapA_any
  go_enter Try.func55, Try.ntmps55
  go_wp2_with fail
  refine (HN.out _ _ _ _).mono ?_
  rintro e w1 ⟨rfl, hj, hb⟩
  have HJ := Lib.hid hj
  have HB := Lib.hid hb
  clear hj hb
  go_wp2_with fail
  go_ret
  have b0 : Below w.heap.size w (w.alloc (.cells #[] 106)) := (Below.refl _ w).alloc (Nat.le_refl _) _
  have b1 := below_trans b0 HB.out
  have hj2 := HJ.out.below ((Below.refl _ w1).alloc (Nat.le_refl _) (.cells #[.pointer (some ⟨(w.alloc (.cells #[] 106)).heap.size + 1, 0, none⟩)] 112))
  have es : (w.alloc (.cells #[] 106)).heap.size = w.heap.size + 1 := by simp
  rw [es] at hj2
  refine ⟨_, _, w.heap.size + 1, rfl, ⟨heap_new' rfl, b1.size, ?_⟩, b1.alloc b1.size _⟩
  obtain ⟨c, len, T, h1, h2, h3, h4, h5, h6, h7, h8, h9, h10⟩ := hj2
  have hle : w.heap.size ≤ w.heap.size + 1 := Nat.le_succ _
  refine ⟨c, len, T, h1, Nat.le_trans hle h2, Nat.le_trans hle h3, h4, h5, h6, fun x hx => ?_, h8, h9, fun x hx => absurd hx (List.not_mem_nil)⟩
  obtain ⟨⟨l1, l2⟩, l3⟩ := h7 x hx
  refine ⟨⟨l1, l2.imp id ?_⟩, l3⟩
  rintro ⟨g, cap, cur, e1, e2, e3⟩
  exact ⟨g, cap, cur, e1, Nat.le_trans hle e2, e3⟩
theorem len_any (B : Nat) (w : World) (s m : Nat) (es : List Ent) (h : JMA B w s m es) : Calls Try.prog 84 #[.pointer (some ⟨s, 0, none⟩)] w (fun e w' => ∃ n : Int, 0 ≤ n ∧ IntPost n w e w') := by
  obtain ⟨c, len, T, h1, _, _, h0, _⟩ := h
  have c1 : w.cell? ⟨s, 1, none⟩ = some (.int .i64 len) := cell_of h1 1
  refine Calls.mono ?_ (fun e w' (H : IntPost len w e w') => ⟨len, h0, H⟩)
  clear h1
  go_enter Try.func84, Try.ntmps84
  go_wp2
  go_ret
  exact ⟨rfl, rfl⟩
theorem length_cache (B : Nat) (w : World) (ca s m : Nat) (es : List Ent) (h : CC B w ca s m es) : Calls Try.prog 59 #[.pointer (some ⟨ca, 0, none⟩)] w (fun e w' => ∃ n : Int, 0 ≤ n ∧ IntPost n w e w') := by
  have c0 : w.cell? ⟨ca, 0, none⟩ = some (.pointer (some ⟨s, 0, none⟩)) := cell_of h.1 0
  have H := Lib.hid (len_any B w s m es h.2.2)
  clear h
  go_enter Try.func59, Try.ntmps59
  go_wp2_with fail
  refine H.out.mono ?_
  rintro e w' ⟨n, hn, rfl, rfl⟩
  go_wp2_with fail
  go_ret
  exact ⟨n, hn, rfl, rfl⟩
set_option maxRecDepth 20000 in
theorem cacheGet_any (B : Nat) (w : World) (ca s m : Nat) (es : List Ent) (p : Addr) (k : Nat) (f : Tops) (hs : CC B w ca s m es) (hkn : AllK w (es.map (·.2.1))) (hm : es.length ≤ 1000000) (hp : Rep w NoX p k f) (hw : Wf k f) :
    Calls Try.prog 77 #[.pointer (some ⟨ca, 0, none⟩), .pointer (some p)] w (GetPostA (fstE es k f) w) := by
  have c0 : w.cell? ⟨ca, 0, none⟩ = some (.pointer (some ⟨s, 0, none⟩)) := cell_of hs.1 0
  have H := Lib.hid (jgetA_any B w s m es p k f hs.2.2 hkn hm hp hw)
  clear hs hkn hp hw
  go_enter Try.func77, Try.ntmps77
  go_wp2_with fail
  refine H.out.mono ?_
  rintro e w' ⟨rfl, hd⟩
  have HD := Lib.hid hd
  clear hd H
  go_wp2_with fail
  go_ret2
  exact ⟨rfl, HD.out⟩
/-- What add leaves. -/
def CAddPost (B : Nat) (ca s m : Nat) (es : List Ent) (p : Addr) (k : Nat) (f : Tops) (w : World) (e : Ending) (w' : World) : Prop :=
  (∃ v, e = .returned v) ∧ ((Dr w w' ∧ fstE es k f ≠ none) ∨ (fstE es k f = none ∧ ∃ a, CC B w' ca s m (es ++ [(a, (p, k, f), p)]) ∧ Below B w w' ∧ Chg (JX 142 w s m) w w'))
set_option maxRecDepth 20000 in
theorem cacheAdd_any (B : Nat) (w : World) (ca s m : Nat) (es : List Ent) (p : Addr) (k : Nat) (f : Tops) (hs : CC B w ca s m es) (hkn : AllK w (es.map (·.2.1))) (hm : es.length ≤ 1000000) (hp : Rep w NoX p k f) (hw : Wf k f) (hk : k ≠ 0) :
    Calls Try.prog 80 #[.pointer (some ⟨ca, 0, none⟩), .pointer (some p)] w (CAddPost B ca s m es p k f w) := by
  have c0 : w.cell? ⟨ca, 0, none⟩ = some (.pointer (some ⟨s, 0, none⟩)) := cell_of hs.1 0
  have HS := Lib.hid hs
  have HK := Lib.hid hkn
  have HP := Lib.hid hp
  have HW := Lib.hid hw
  have HE := Lib.hid (isEmpty_any NoX p k f w hp hw)
  have H := Lib.hid (jgetA_any B w s m es p k f hs.2.2 hkn hm hp hw)
  clear hs hkn hp hw
  go_enter Try.func80, Try.ntmps80
  go_wp2_with fail
  refine HE.out.mono ?_
  rintro e w' ⟨rfl, rfl⟩
  rw [decide_eq_false hk]
  clear HE
  go_wp2_with fail
  refine H.out.mono ?_
  rintro e w1 ⟨rfl, hd⟩
  have HD := Lib.hid hd
  have c1 : w1.cell? ⟨ca, 0, none⟩ = some (.pointer (some ⟨s, 0, none⟩)) := cell_bel c0 hd.below
  clear hd H
  cases hf : fstE es k f with
  | some u =>
    have HF := Lib.hid hf
    clear hf
    go_wp2_with fail
    go_ret
    exact ⟨⟨_, rfl⟩, .inl ⟨HD.out, by rw [HF.out]; simp⟩⟩
  | none =>
    have HF := Lib.hid hf
    clear hf
    have HC := Lib.hid (jputA_any B w1 s m es p p k f (HS.out.2.2.dr HD.out) (fun x hx => ⟨(HK.out x hx).1.stay HD.out.stay, (HK.out x hx).2⟩) hm (HP.out.stay HD.out.stay) HW.out)
    go_wp2_with fail
    refine HC.out.mono ?_
    rintro e w2 (⟨u, h1, _⟩ | ⟨_, rfl, a, hj, hb, hc⟩)
    · rw [HF.out] at h1; cases h1
    · have hcc := (HS.out.dr HD.out).jm hc hj
      have hB : B ≤ w.heap.size := Nat.le_trans HS.out.2.1 (Nat.le_of_lt (Array.getElem?_eq_some_iff.1 HS.out.1).1)
      have HFIN := Lib.hid (show CC B w2 ca s m (es ++ [(a, (p, k, f), p)]) ∧ Below B w w2 ∧ Chg (JX 142 w s m) w w2 from ⟨hcc, (HD.out.below.mono hB).trans hb, by
        obtain ⟨n, hn⟩ := HD.out
        rw [hn] at hc
        exact ⟨hc.os, hc.tape, hc.output, hc.size, hc.block⟩⟩)
      clear hcc hj hb hc HC
      go_wp2_with fail
      go_ret
      exact ⟨⟨_, rfl⟩, .inr ⟨HF.out, a, HFIN.out⟩⟩
end Go.Proofs.Ytcbabfndfikejaa
