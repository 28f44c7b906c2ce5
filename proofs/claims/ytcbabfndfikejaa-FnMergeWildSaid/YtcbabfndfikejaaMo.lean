/- What a merge hands back, in parts; plain facts of the merge of choices with one top. No program in sight but in the walk of a store to the cache. -/
import Derived.Test.YtcbabfndfikejaaMif
namespace Go.Proofs.Ytcbabfndfikejaa
open Go.RowKit
set_option linter.unusedSimpArgs false

/-- What a merge hands back, by its address. -/
def MO (S : List Addr) (t : Tr) (N : Nat) (I : (Nat → Prop) → Nat → (Nat → Prop) → World → Prop) (Z : Nat → Prop) (L : Nat) (Φ : Nat → Prop) (w : World) (r : Addr) (w' : World) : Prop :=
  ∃ (E : List Addr) (Φ' : Nat → Prop), E.length ≤ N ∧ r ∈ S ++ E ∧ ClX w' Z (S ++ E) ∧ Rep w' Z r t.1 t.2 ∧ I Z L Φ' w' ∧ (∀ j, Φ' j → Φ j ∨ w.heap.size ≤ j) ∧ Chg Φ w w' ∧ Stay w w'
section
variable {S : List Addr} {t : Tr} {N : Nat} {I : (Nat → Prop) → Nat → (Nat → Prop) → World → Prop} {Z : Nat → Prop} {L : Nat} {Φ : Nat → Prop} {w w' : World} {r : Addr}
theorem MO.out (h : MO S t N I Z L Φ w r w') : MOut S t N I Z L Φ w (.returned (.pointer (some r))) w' := by
  obtain ⟨E, Φ', h⟩ := h
  exact ⟨r, E, Φ', rfl, h⟩
theorem MO.below (h : MO S t N I Z L Φ w r w') (hI : CacheI I) {w2 : World} (hb : Below w'.heap.size w' w2) : MO S t N I Z L Φ w r w2 := by
  obtain ⟨E, Φ', h1, h2, h3, h4, h5, h6, h7, h8⟩ := h
  exact ⟨E, Φ', h1, h2, h3.stay (Stay.of_below hb), h4.stay (Stay.of_below hb), hI.below h5 hb, h6, h7.trans (Chg.of_below (X := fun _ => False) hb) (fun _ _ h => h.elim), h8.trans (Stay.of_below hb)⟩
theorem MO.mono (h : MO S t N I Z L Φ w r w') (hI : CacheI I) {N' L' : Nat} (hN : N ≤ N') (hL : L ≤ L') : MO S t N' I Z L' Φ w r w' := by
  obtain ⟨E, Φ', h1, h2, h3, h4, h5, h6, h7, h8⟩ := h
  exact ⟨E, Φ', Nat.le_trans h1 hN, h2, h3, h4, hI.mono h5 hL, h6, h7, h8⟩
/-- a choice of the list is handed back -/
theorem MO.old {Φ' : Nat → Prop} (h1 : r ∈ S) (h2 : ClX w' Z S) (h3 : Rep w' Z r t.1 t.2) (h4 : I Z L Φ' w') (h5 : ∀ j, Φ' j → Φ j ∨ w.heap.size ≤ j) (h6 : Chg Φ w w') (h7 : Stay w w') : MO S t N I Z L Φ w r w' :=
  ⟨[], Φ', Nat.zero_le _, by simpa using h1, by simpa using h2, h3, h4, h5, h6, h7⟩
end
theorem ClX.snoc {w : World} {Z : Nat → Prop} {T : List Addr} {r : Addr} (h : ClX w Z T) (hk : KidIn w Z r T) : ClX w Z (T ++ [r]) := by
  intro q hq
  rcases List.mem_append.1 hq with hq | hq
  · obtain ⟨g, k, h', ss, qs, h1, h2, h3⟩ := h q hq
    exact ⟨g, k, h', ss, qs, h1, h2, fun x hx => List.mem_append_left _ (h3 x hx)⟩
  · simp at hq; subst hq
    obtain ⟨rs, ⟨g, k, h', ss, h1, h2⟩, h3⟩ := hk
    exact ⟨g, k, h', ss, rs, h1, h2, fun x hx => List.mem_append_left _ (h3 x hx)⟩
/-- a new choice is handed back, over what a merge below has handed back -/
theorem MO.new {S : List Addr} {t : Tr} {N : Nat} {I : (Nat → Prop) → Nat → (Nat → Prop) → World → Prop} {Z : Nat → Prop} {L : Nat} {Φ Φ' : Nat → Prop} {w w1 w' : World} {r : Addr} {E : List Addr} (hI : CacheI I) (hE : E.length + 1 ≤ N) (hcl : ClX w1 Z (S ++ E)) (hi : I Z L Φ' w1) (hΦ : ∀ j, Φ' j → Φ j ∨ w.heap.size ≤ j) (hc : Chg Φ w w1) (hs : Stay w w1)
    (hb : Below w1.heap.size w1 w') (hk : KidIn w' Z r (S ++ E)) (hr : Rep w' Z r t.1 t.2) : MO S t N I Z L Φ w r w' := by
  refine ⟨E ++ [r], Φ', by simp; omega, by simp, ?_, hr, hI.below hi hb, hΦ, hc.trans (Chg.of_below (X := fun _ => False) hb) (fun _ _ h => h.elim), hs.trans (Stay.of_below hb)⟩
  rw [← List.append_assoc]
  exact (hcl.stay (Stay.of_below hb)).snoc hk
theorem cnA_pos (wild : Bool) (f g : Tops) : 1 ≤ cnA wild f g := by unfold cnA; omega
theorem MO.qm {S : List Addr} {wild : Bool} {X Y : Tr} {I : (Nat → Prop) → Nat → (Nat → Prop) → World → Prop} {Z : Nat → Prop} {L : Nat} {Φ : Nat → Prop} {w w' : World} {r : Addr} (h : MO S (mgA wild X.2 Y.2) (cnA wild X.2 Y.2) I Z L Φ w r w') : Qm wild S Z w' X Y r := by
  obtain ⟨E, Φ', h1, h2, h3, h4, _⟩ := h
  exact ⟨E, h1, h2, h3, h4⟩
/-- A merge is laid in the cache. -/
theorem MO.put {S : List Addr} {wild : Bool} {X Y : Tr} {B pa L : Nat} {Z Φ : Nat → Prop} {w w' : World} {r : Addr} (h : MO S (mgA wild X.2 Y.2) (cnA wild X.2 Y.2) (fun Z => PCM B (Qm wild S) Z pa) Z L Φ w r w') (p q : Addr) (hL : L ≤ 1000000000) (hp : KOX w' Z p X.1 X.2) (hq : KOX w' Z q Y.1 Y.2) :
    Calls Try.prog 98 #[.pointer (some ⟨pa, 0, none⟩), .pointer (some p), .pointer (some q), .pointer (some r)] w' (fun e w2 => e = .returned (.tuple #[]) ∧ MO S (mgA wild X.2 Y.2) (cnA wild X.2 Y.2) (fun Z => PCM B (Qm wild S) Z pa) Z (L + 1) Φ w r w2) := by
  have hQ := h.qm
  obtain ⟨E, Φ', h1, h2, h3, h4, h5, h6, h7, h8⟩ := h
  refine (pput_any B (Qm wild S) Z pa L Φ' w' p q r X Y h5 Qm.move hL hp hq hQ).mono ?_
  rintro e w2 ⟨rfl, Φ2, k1, k2, k3, k4⟩
  have hsz := h7.size
  refine ⟨rfl, E, Φ2, h1, h2, h3.stay k4, h4.stay k4, k1, fun j hj => ?_, h7.trans k3 (fun j hj hx => ?_), h8.trans k4⟩
  · rcases k2 j hj with h | h
    · exact h6 j h
    · exact .inr (by omega)
  · rcases h6 j hx with h | h
    · exact h
    · omega
/-- What was laid in the cache is handed back. -/
theorem MO.got {S : List Addr} {wild : Bool} {X Y : Tr} {I : (Nat → Prop) → Nat → (Nat → Prop) → World → Prop} {Z : Nat → Prop} {L : Nat} {Φ : Nat → Prop} {w w' : World} {r : Addr} (hI : CacheI I) (hi : I Z L Φ w) (hd : Dr w w') (h : Qm wild S Z w X Y r) : MO S (mgA wild X.2 Y.2) (cnA wild X.2 Y.2) I Z L Φ w r w' := by
  obtain ⟨E, h1, h2, h3, h4⟩ := h
  exact ⟨E, Φ, h1, h2, h3.stay hd.stay, h4.stay hd.stay, hI.below hi hd.below, fun j hj => .inl hj, Chg.of_below hd.below, hd.stay⟩
theorem MO.from {S : List Addr} {t : Tr} {N : Nat} {I : (Nat → Prop) → Nat → (Nat → Prop) → World → Prop} {Z : Nat → Prop} {L : Nat} {Φ : Nat → Prop} {w0 w w' : World} {r : Addr} (h : MO S t N I Z L Φ w r w') (hd : Dr w0 w) : MO S t N I Z L Φ w0 r w' := by
  obtain ⟨E, Φ', h1, h2, h3, h4, h5, h6, h7, h8⟩ := h
  have e := hd.heap
  exact ⟨E, Φ', h1, h2, h3, h4, h5, fun j hj => by rw [← e]; exact h6 j hj, (Chg.of_below (X := Φ) hd.below).trans h7 (fun _ _ h => h), hd.stay.trans h8⟩
theorem Qm.comm {S : List Addr} {wild : Bool} {X Y : Tr} {Z : Nat → Prop} {w : World} {r : Addr} (hX : X.2.wf) (hY : Y.2.wf) (h : Qm wild S Z w Y X r) : Qm wild S Z w X Y r := by
  obtain ⟨E, h1, h2, h3, h4⟩ := h
  exact ⟨E, by rw [cnA_comm]; exact h1, h2, h3, by rw [mgA_comm hX hY]; exact h4⟩

/-! ### choices with one top -/
theorem mgA_same (w : Bool) (s : Int) (k k' : Nat) (a b : Tops) : mgA w (.cons s k a .nil) (.cons s k' b .nil) = (1, .cons s (mg w (k, a) (k', b)).1 (mg w (k, a) (k', b)).2 .nil) := by
  unfold mgA mkM
  rw [zipT, if_pos rfl, zipT]
  simp [Tops.len]
theorem mgA_lt (w : Bool) {s t : Int} (k k' : Nat) (a b : Tops) (h : s < t) : mgA w (.cons s k a .nil) (.cons t k' b .nil) = (2, .cons s k a (.cons t k' b .nil)) := by
  have hz : zipT (mg w) (.cons s k a .nil) (.cons t k' b .nil) = .cons s k a (.cons t k' b .nil) := by rw [zipT, if_neg (by omega), if_pos h, zipT]
  unfold mgA mkM
  rw [hz]
  simp [Tops.len]
theorem mgA_gt (w : Bool) {s t : Int} (k k' : Nat) (a b : Tops) (h : t < s) : mgA w (.cons s k a .nil) (.cons t k' b .nil) = (2, .cons t k' b (.cons s k a .nil)) := by
  have hz : zipT (mg w) (.cons s k a .nil) (.cons t k' b .nil) = .cons t k' b (.cons s k a .nil) := by rw [zipT, if_neg (by omega), if_neg (by omega), zipT]
  unfold mgA mkM
  rw [hz]
  simp [Tops.len]
theorem cnA_same (w : Bool) (s : Int) (k k' : Nat) (a b : Tops) : cnA w (.cons s k a .nil) (.cons s k' b .nil) = 1 + cn w (k, a) (k', b) := by
  unfold cnA
  rw [pairsT, if_pos rfl, pairsT]
  simp [psum]
/-- an array of two -/
theorem newTwo_any (Z : Nat → Prop) (gi gp : Nat) (lo hi : Int) (u1 u2 : Addr) (k1 k2 : Nat) (a1 a2 : Tops) (w : World) (hZ : OldX Z w) (z1 : ¬ Z gi) (z2 : ¬ Z gp) (h1 : w.heap[gi]? = some (.cells #[.int .i64 lo, .int .i64 hi] 3 (0, 0))) (h2 : w.heap[gp]? = some (.cells #[.pointer (some u1), .pointer (some u2)] 72 (0, 0)))
    (r1 : Rep w Z u1 k1 a1) (r2 : Rep w Z u2 k2 a2) : Calls Try.prog 66 #[.slice (some ⟨gp, 0, none⟩) 2 2, .slice (some ⟨gi, 0, none⟩) 2 2] w (NewPostK Z 2 (.cons lo k1 a1 (.cons hi k2 a2 .nil)) [u1, u2] w) := by
  obtain ⟨b1, e1, q1⟩ := r1
  obtain ⟨b2, e2, q2⟩ := r2
  subst e1
  subst e2
  have hrow1 : Row w Z 72 (some ⟨gp, 0, none⟩) 2 (ptrs [⟨b1, 0, none⟩, ⟨b2, 0, none⟩]) := ⟨rfl, fun _ => ⟨gp, 0, _, rfl, z2, h2, fun j u hu => by
    match j, hu with
    | 0, hu => simpa [ptrs] using hu
    | 1, hu => simpa [ptrs] using hu
    | j + 2, hu => simp [ptrs] at hu⟩⟩
  have hrow2 : Row w Z 3 (some ⟨gi, 0, none⟩) 2 (ints [lo, hi]) := ⟨rfl, fun _ => ⟨gi, 0, _, rfl, z1, h1, fun j u hu => by
    match j, hu with
    | 0, hu => simpa [ints] using hu
    | 1, hu => simpa [ints] using hu
    | j + 2, hu => simp [ints] at hu⟩⟩
  exact NewArrayK_any Z (some ⟨gp, 0, none⟩) (some ⟨gi, 0, none⟩) 2 2 (.cons lo k1 a1 (.cons hi k2 a2 .nil)) [⟨b1, 0, none⟩, ⟨b2, 0, none⟩] w hZ hrow1 hrow2 ⟨b1, _, rfl, q1, b2, _, rfl, q2, rfl⟩ (by simp [Tops.len])
end Go.Proofs.Ytcbabfndfikejaa
