/- A table that came in as an argument, opened; and its copy by laws.nodes. No condition. -/
import Derived.Test.YtcbabfndfikejaaQ1
import Derived.Deep.Slices
import Derived.Deep.Fields
import Derived.ChangeSame
import Derived.ProofKit
namespace Go.Proofs.Ytcbabfndfikejaa
open Go.RowKit Go.ChangeShapes Go.WideShapes Go.Deep
section
variable {H : Type} {enc : TypeId × Value → H} {P : Program} {w : World} {base : Nat} {spare : Nat → Bool} {held : Bool}
theorem open_slice_fields {t e : TypeId} {fs : Array Field} {fuel : Nat} {cs : List Value} {x : DataW H × List MemPlace} (ht : P.underlying t = some (.slice e)) (he : P.underlying e = some (.struct fs))
    (hone : oneCellFields P fs = true) (hC : P.cellsOf e = fs.size) (h : DataW.trod enc P w base spare held fuel t cs = some x) :
    (cs = [.slice none 0 0] ∧ x = (.nil, [])) ∨
    ∃ (a : Addr) (len cap m : Nat) (D : Nat → DataW H) (Pl : Nat → List MemPlace), cs = [.slice (some a) len cap] ∧ base ≤ a.block ∧ len ≤ cap ∧ cap ≤ maxLen ∧ m = (if spare a.block then cap else len) ∧
      x = (.slice ((List.range len).map D) ((List.range (m - len)).map fun j => D (len + j)), MemPlace.row a (m * fs.size) ++ (List.range m).flatMap Pl) ∧
      ∀ i, i < m → ∃ (ys : List (DataW H × List MemPlace)) (n : Nat), D i = .agg (ys.map (·.1)) ∧ Pl i = ys.flatMap (·.2) ∧ ys.length = fs.size ∧
        ∀ (j : Nat) (f : Field), fs[j]? = some f → ∃ (v : Value) (y : DataW H × List MemPlace), w.cell? (a.add (i * fs.size + j)) = some v ∧ ys[j]? = some y ∧ DataW.trod enc P w base spare held n f.type [v] = some y := by
  rcases open_slice ht h with h0 | ⟨a, len, cap, m, n, D, Pl, hcs, hb, hl, hm, hmm, hx, hi⟩
  · exact .inl h0
  · refine .inr ⟨a, len, cap, m, D, Pl, hcs, hb, hl, hm, hmm, by rw [hC] at hx; exact hx, fun i him => ?_⟩
    obtain ⟨cs', hc, ht'⟩ := hi i him
    rw [hC] at hc
    obtain ⟨ys, n', hn', hy, hlen, hyl, hf⟩ := DataW.trod_struct he ht'
    obtain ⟨_, hcl, hat⟩ := World.cells?_some hc
    simp only [Prod.mk.injEq] at hy
    refine ⟨ys, n', hy.1, hy.2, hyl, fun j f hj => ?_⟩
    obtain ⟨ho, hk⟩ := hone_of hone j f hj
    have hjl : j < fs.size := (Array.getElem?_eq_some_iff.1 hj).1
    have hcell := hat j hjl
    have hv : cs'[j]? = some (cs'[j]'(by omega)) := List.getElem?_eq_getElem (by omega)
    have h1 := hf j f hj
    rw [ho, hk] at h1
    have hone' : (cs'.drop j).take 1 = [cs'[j]'(by omega)] := by
      rw [List.drop_eq_getElem_cons (by omega)]
      rfl
    rw [hone'] at h1
    have hys : ys[j]? = some (ys[j]'(by omega)) := List.getElem?_eq_getElem (by omega)
    refine ⟨_, _, ?_, hys, h1.trans hys⟩
    rw [← Go.Deep.add_add, hcell, hv]
end

section
variable {H : Type} {enc : TypeId × Value → H} {w : World} {base : Nat} {spare : Nat → Bool} {held : Bool}
/-- a slice of ints, in one cell -/
theorem ints_of_trod {fuel : Nat} {v : Value} {x : DataW H × List MemPlace} (h : DataW.trod enc Try.prog w base spare held fuel 22 [v] = some x) :
    ∃ (A : Option Addr) (c : Nat) (vs : List Int), v = .slice A vs.length c ∧ Reads w w.heap.size 1 A vs.length (ints vs) := by
  rcases open_ints Try.underlying22 Try.underlying3 (by kernel_rfl) h with ⟨hcs, _⟩ | ⟨a, l, c, zs, hcs, _, hl, hm, hz, _, hcell, hwz⟩
  · simp at hcs
    exact ⟨none, 0, [], hcs, Reads.none_⟩
  · simp at hcs
    have hl' : l ≤ zs.length := by
      rcases hz with hz
      split at hz <;> omega
    refine ⟨some a, c, zs.take l, ?_, ⟨by simp [ints], fun hn => ?_⟩⟩
    · rw [hcs, List.length_take, Nat.min_eq_left hl']
    · have hlt : 0 < zs.length := by rw [List.length_take] at hn; omega
      refine ⟨a, rfl, by have := World.block_lt_of_cell? w _ (hcell 0 hlt); simpa [block_of_add] using this, fun j u hu => ?_⟩
      obtain ⟨v, hv, rfl⟩ := ints_at hu
      rw [List.getElem?_take] at hv
      split at hv
      · have hj : j < zs.length := by rcases Nat.lt_or_ge j zs.length with h | h; exact h; rw [List.getElem?_eq_none h] at hv; cases hv
        rw [hcell j hj, List.getD_eq_getElem?_getD, hv]; rfl
      · cases hv

theorem tbl_grow {a : Addr} : ∀ n : Nat, (∀ i, i < n → ∃ (u v : Value) (nd : Nd), w.cell? (a.add (i * 2)) = some u ∧ w.cell? (a.add (i * 2 + 1)) = some v ∧ NdVal w w.heap.size u v nd) →
    ∃ (ns : List Nd) (xs : List Value), ns.length = n ∧ xs.length = n * 2 ∧ (∀ j u, xs[j]? = some u → w.cell? (a.add j) = some u) ∧
      ∀ i nd, ns[i]? = some nd → ∃ u v, xs[i * 2]? = some u ∧ xs[i * 2 + 1]? = some v ∧ NdVal w w.heap.size u v nd := by
  intro n
  induction n with
  | zero => intro _; exact ⟨[], [], rfl, rfl, fun j u h => by simp at h, fun i nd h => by simp at h⟩
  | succ n ih =>
    intro h
    obtain ⟨ns, xs, h1, h2, h3, h4⟩ := ih fun i hi => h i (by omega)
    obtain ⟨u, v, nd, hu, hv, hnd⟩ := h n (by omega)
    refine ⟨ns ++ [nd], xs ++ [u, v], by simp [h1], by simp [h2]; omega, fun j x hj => ?_, fun i nd' hi => ?_⟩
    · rcases Nat.lt_or_ge j xs.length with hl | hl
      · rw [List.getElem?_append_left hl] at hj; exact h3 j x hj
      · rw [List.getElem?_append_right hl] at hj
        rcases Nat.lt_or_ge (j - xs.length) 1 with h0 | h0
        · have e : j = n * 2 := by omega
          have e0 : j - xs.length = 0 := by omega
          rw [e0] at hj; simp at hj; rw [e, hu, hj]
        · rcases Nat.lt_or_ge (j - xs.length) 2 with h5 | h5
          · have e : j = n * 2 + 1 := by omega
            have e0 : j - xs.length = 1 := by omega
            rw [e0] at hj; simp at hj; rw [e, hv, hj]
          · rw [List.getElem?_eq_none (by simpa using h5)] at hj; cases hj
    · rcases Nat.lt_or_ge i n with hl | hl
      · rw [List.getElem?_append_left (by omega)] at hi
        obtain ⟨u', v', e1, e2, e3⟩ := h4 i nd' hi
        exact ⟨u', v', by rw [List.getElem?_append_left (by omega)]; exact e1, by rw [List.getElem?_append_left (by omega)]; exact e2, e3⟩
      · rw [List.getElem?_append_right (by omega)] at hi
        have e : i = n := by
          rcases Nat.lt_or_ge n i with h5 | h5
          · rw [List.getElem?_eq_none (by simp; omega)] at hi; cases hi
          · omega
        subst e
        simp [h1] at hi
        subst hi
        exact ⟨u, v, by rw [List.getElem?_append_right (by omega)]; simp [h2], by rw [List.getElem?_append_right (by omega)]; simp [h2], hnd⟩

theorem cells56 : Try.prog.cellsOf 56 = 2 := by kernel_rfl
/-- A TABLE THAT CAME IN. -/
theorem tbl_of_arg {v : Value} {d : DataW H} {p : List MemPlace} (h : DataW.Trod enc Try.prog w base spare held 25 v d p) (hs : ∃ A l c, v = .slice A l c) :
    ∃ (A : Option Addr) (c : Nat) (ns : List Nd), v = .slice A ns.length c ∧ Tbl w w.heap.size A ns ∧ ns.length ≤ maxLen := by
  obtain ⟨A, l, c, rfl⟩ := hs
  obtain ⟨fuel, hf⟩ := h
  rcases open_slice_fields Try.underlying25 Try.underlying56 (by kernel_rfl) cells56 hf with ⟨hcs, _⟩ | ⟨a, len, cap, m, D, Pl, hcs, _, hl, hm, hmm, _, hi⟩
  · simp [Value.cells] at hcs
    obtain ⟨rfl, rfl, rfl⟩ := hcs
    exact ⟨none, 0, [], rfl, ⟨[], Reads.none_, fun i nd h => by simp at h⟩, by simp⟩
  · simp [Value.cells] at hcs
    obtain ⟨rfl, rfl, rfl⟩ := hcs
    have hlm : l ≤ m := by rw [hmm]; split <;> omega
    obtain ⟨ns, xs, h1, h2, h3, h4⟩ := tbl_grow (w := w) (a := a) l (by
      intro i hil
      obtain ⟨ys, n, _, _, _, hf⟩ := hi i (by omega)
      obtain ⟨u, yu, hu, _, tu⟩ := hf 0 _ rfl
      obtain ⟨v, yv, hv, _, tv⟩ := hf 1 _ rfl
      obtain ⟨A, c1, vs, rfl, r1⟩ := ints_of_trod tu
      obtain ⟨A', c2, vs', rfl, r2⟩ := ints_of_trod tv
      exact ⟨_, _, ⟨vs, vs'⟩, hu, hv, A, c1, A', c2, rfl, rfl, r1, r2⟩)
    refine ⟨some a, c, ns, by rw [h1], ⟨xs, ⟨by rw [h1, h2], fun hn => ⟨a, rfl, ?_, h3⟩⟩, h4⟩, by omega⟩
    have h0 := h3 0 _ (List.getElem?_eq_getElem (by omega))
    have := World.block_lt_of_cell? w _ h0
    simpa [block_of_add] using this
end

theorem Tbl.slices {w : World} {B : Nat} {A : Option Addr} {ns : List Nd} {xs : List Value} (h1 : Reads w B 2 A ns.length xs)
    (h2 : ∀ i nd, ns[i]? = some nd → ∃ u v, xs[i * 2]? = some u ∧ xs[i * 2 + 1]? = some v ∧ NdVal w B u v nd) : Slices xs := by
  intro j u hu
  have hl := h1.1
  have hj : j < xs.length := (List.getElem?_eq_some_iff.1 hu).1
  have hi : j / 2 < ns.length := by omega
  obtain ⟨a, b, ha, hb, A1, c1, A2, c2, rfl, rfl, _⟩ := h2 (j / 2) _ (List.getElem?_eq_getElem hi)
  rcases Nat.mod_two_eq_zero_or_one j with h | h
  · have e : j / 2 * 2 = j := by omega
    rw [e, hu] at ha; cases ha; exact ⟨_, _, _, rfl⟩
  · have e : j / 2 * 2 + 1 = j := by omega
    rw [e, hu] at hb; cases hb; exact ⟨_, _, _, rfl⟩

/-- laws.nodes hands on a table of the same nodes. -/
theorem lawsNodes_tbl (A : Option Addr) (c : Nat) (ns : List Nd) (w : World) (ht : Tbl w w.heap.size A ns) (hm : ns.length ≤ 2147483647) :
    Calls Try.prog 17 #[.slice A ns.length c] w (fun e w' => ∃ A' c', e = .returned (.slice A' ns.length c') ∧ Tbl w' w'.heap.size A' ns ∧ Below w.heap.size w w') := by
  obtain ⟨xs, h1, h2⟩ := ht
  refine (lawsNodes_any A c ns.length xs w h1 (Tbl.slices h1 h2) hm).mono ?_
  rintro e w' ⟨v, rfl, hown, hb⟩
  obtain ⟨A', c', rfl, hr⟩ := own_slice hown
  refine ⟨A', c', rfl, ⟨xs, hr, fun i nd hi => ?_⟩, hb⟩
  obtain ⟨u, v, e1, e2, e3⟩ := h2 i nd hi
  exact ⟨u, v, e1, e2, (e3.keep fun _ hp => hb.cell hp).more hb.size⟩
end Go.Proofs.Ytcbabfndfikejaa
