/- A list of steps that came in as an argument, opened; the listed tables, as the walks want them. No condition. -/
import Derived.Test.YtckdcceglmlinaaDoorSteps
import Derived.Deep.Slices
import Derived.Deep.Fields
import Derived.ChangeSame
import Derived.ProofKit
import Derived.Test.YtckdcceglmlinaaDoorStr2
import Derived.LaidMore
import Derived.OpenShut
import Derived.Stop.Joined
import Derived.Test.YtckdcceglmlinaaDoorCards
import Derived.Test.YtckdcceglmlinaaDoorTie
namespace Go.Proofs.YtckdcceglmlinaaDoor
open Go.RowKit Go.ChangeShapes Go.WideShapes Go.Deep
section
variable {H : Type} {enc : TypeId × Value → H} {P : Program} {w : World} {base : Nat} {spare : Nat → Bool} {held : Bool}
theorem open_slice_fields {t e : TypeId} {fs : Array Field} {fuel : Nat} {cs : List Value} {x : DataW H × List MemPlace} (ht : P.underlying t = some (.slice e)) (he : P.underlying e = some (.struct fs))
    (hone : oneCellFields P fs = true) (hC : P.cellsOf e = fs.size) (h : DataW.trod enc P w base spare held fuel t cs = some x) :
    (cs = [.slice none 0 0] ∧ x = (.nil, [])) ∨
    ∃ (a : Addr) (len cap m : Nat) (D : Nat → DataW H) (Pl : Nat → List MemPlace), cs = [.slice (some a) len cap] ∧ base ≤ a.block ∧ len ≤ cap ∧ cap ≤ maxLen ∧ m = (if spare a.block then cap else len) ∧
      x = (.slice ((List.range len).map D) ((List.range (m - len)).map fun j => D (len + j)), MemPlace.row a (m * fs.size) ++ (List.range m).flatMap Pl) ∧
      ∀ i, i < m → ∃ (ys : List (DataW H × List MemPlace)) (n : Nat), D i = .agg (ys.map (·.1)) ∧ Pl i = ys.flatMap (·.2) ∧ ys.length = fs.size ∧
        ∀ (j : Nat) (f : Field), fs[j]? = some f → ∃ (v : Value) (y : DataW H × List MemPlace), w.cell? (a.add (i * fs.size + j)) = some v ∧ ys[j]? = some y ∧ DataW.trod enc P w base spare held n f.type [v] = some y := by
  rcases open_slice ht h with h0 | ⟨a, len, cap, m, n, D, Pl, hcs, hb, hl, hm, hmm, hx, hi⟩
  · exact .inl h0
  · refine .inr ⟨a, len, cap, m, D, Pl, hcs, hb, hl, hm, hmm, by rw [hC] at hx; exact hx, fun i him => ?_⟩
    obtain ⟨cs', hc, ht'⟩ := hi i him
    rw [hC] at hc
    obtain ⟨ys, n', hn', hy, hlen, hyl, hf⟩ := DataW.trod_struct he ht'
    obtain ⟨_, hcl, hat⟩ := World.cells?_some hc
    simp only [Prod.mk.injEq] at hy
    refine ⟨ys, n', hy.1, hy.2, hyl, fun j f hj => ?_⟩
    obtain ⟨ho, hk⟩ := hone_of hone j f hj
    have hjl : j < fs.size := (Array.getElem?_eq_some_iff.1 hj).1
    have hcell := hat j hjl
    have hv : cs'[j]? = some (cs'[j]'(by omega)) := List.getElem?_eq_getElem (by omega)
    have h1 := hf j f hj
    rw [ho, hk] at h1
    have hone' : (cs'.drop j).take 1 = [cs'[j]'(by omega)] := by
      rw [List.drop_eq_getElem_cons (by omega)]
      rfl
    rw [hone'] at h1
    have hys : ys[j]? = some (ys[j]'(by omega)) := List.getElem?_eq_getElem (by omega)
    refine ⟨_, _, ?_, hys, h1.trans hys⟩
    rw [← Go.Deep.add_add, hcell, hv]
end


section
variable {H : Type} {enc : TypeId × Value → H} {w : World} {base : Nat} {spare : Nat → Bool} {held : Bool}
theorem steps_grow {a : Addr} : ∀ n : Nat, (∀ i, i < n → ∃ x y z : Int, w.cell? (a.add (i * 3)) = some (.int .i64 x) ∧ w.cell? (a.add (i * 3 + 1)) = some (.int .i64 y) ∧ w.cell? (a.add (i * 3 + 2)) = some (.int .i64 z)) →
    ∃ sts : List St, sts.length = n ∧ ∀ j u, (flat3 sts)[j]? = some u → w.cell? (a.add j) = some u := by
  intro n
  induction n with
  | zero => intro _; exact ⟨[], rfl, fun j u h => by simp [flat3] at h⟩
  | succ n ih =>
    intro h
    obtain ⟨sts, h1, h3⟩ := ih fun i hi => h i (by omega)
    obtain ⟨x, y, z, hx, hy, hz⟩ := h n (by omega)
    refine ⟨sts ++ [⟨x, y, z⟩], by simp [h1], fun j u hj => ?_⟩
    rw [flat3_append] at hj
    have hl := flat3_length sts
    rw [h1] at hl
    rcases Nat.lt_or_ge j (flat3 sts).length with hlt | hge
    · rw [List.getElem?_append_left hlt] at hj; exact h3 j u hj
    · rw [List.getElem?_append_right hge] at hj
      generalize hd : j - (flat3 sts).length = d at hj
      match d, hj with
      | 0, hj => have e : j = n * 3 := by omega
                 simp [flat3] at hj; subst hj; rw [e]; exact hx
      | 1, hj => have e : j = n * 3 + 1 := by omega
                 simp [flat3] at hj; subst hj; rw [e]; exact hy
      | 2, hj => have e : j = n * 3 + 2 := by omega
                 simp [flat3] at hj; subst hj; rw [e]; exact hz
      | d + 3, hj => simp [flat3] at hj
theorem cells39 : Tryd.prog.cellsOf 39 = 3 := by kernel_rfl
/-- STEPS THAT CAME IN. -/
theorem steps_of_arg {v : Value} {d : DataW H} {p : List MemPlace} (h : DataW.Trod enc Tryd.prog w base spare held 22 v d p) (hs : ∃ A l c, v = .slice A l c) :
    ∃ (A : Option Addr) (c : Nat) (sts : List St), v = .slice A sts.length c ∧ Reads w w.heap.size 3 A sts.length (flat3 sts) ∧ sts.length ≤ maxLen := by
  obtain ⟨A, l, c, rfl⟩ := hs
  obtain ⟨fuel, hf⟩ := h
  rcases open_slice_fields Tryd.underlying22 Tryd.underlying39 (by kernel_rfl) cells39 hf with ⟨hcs, _⟩ | ⟨a, len, cap, m, D, Pl, hcs, _, hl, hm, hmm, _, hi⟩
  · simp [Value.cells] at hcs
    obtain ⟨rfl, rfl, rfl⟩ := hcs
    exact ⟨none, 0, [], rfl, Reads.none_, by simp⟩
  · simp [Value.cells] at hcs
    obtain ⟨rfl, rfl, rfl⟩ := hcs
    have hlm : l ≤ m := by rw [hmm]; split <;> omega
    obtain ⟨sts, h1, h3⟩ := steps_grow (w := w) (a := a) l (by
      intro i hil
      obtain ⟨ys, n, _, _, _, hf⟩ := hi i (by omega)
      obtain ⟨u, yu, hu, _, tu⟩ := hf 0 _ rfl
      obtain ⟨v, yv, hv, _, tv⟩ := hf 1 _ rfl
      obtain ⟨x, yx, hx, _, tx⟩ := hf 2 _ rfl
      obtain ⟨n1, e1, _⟩ := DataW.trod_int Tryd.underlying3 tu
      obtain ⟨n2, e2, _⟩ := DataW.trod_int Tryd.underlying3 tv
      obtain ⟨n3, e3, _⟩ := DataW.trod_int Tryd.underlying3 tx
      simp at e1 e2 e3
      subst e1 e2 e3
      exact ⟨n1, n2, n3, hu, hv, hx⟩)
    refine ⟨some a, c, sts, by rw [h1], ⟨flat3_length sts, fun hn => ⟨a, rfl, ?_, h3⟩⟩, by omega⟩
    have h0 := h3 0 _ (List.getElem?_eq_getElem (by rw [flat3_length]; omega))
    have := World.block_lt_of_cell? w _ h0
    simpa [block_of_add] using this
end

/-! ### the listed tables -/
theorem g64 : Tryd.prog.globalNamed "math/bits.deBruijn64tab" = some 0 := by kernel_rfl
theorem g64Type : (Tryd.prog.globals[0]?).map (·.type) = some 61 := by kernel_rfl
theorem gPowType : (Tryd.prog.globals[1]?).map (·.type) = some 82 := by kernel_rfl
theorem cells5 : Tryd.prog.cellsOf 5 = 1 := by kernel_rfl
theorem cells54 : Tryd.prog.cellsOf 54 = 1 := by kernel_rfl
theorem cells61 : Tryd.prog.cellsOf 61 = 64 := by kernel_rfl
theorem cells82 : Tryd.prog.cellsOf 82 = 20 := by kernel_rfl
def laid3 : List (String × DataW Unit) := [("math/bits.deBruijn32tab", Rows.laid_math_bits_deBruijn32tab), ("math/bits.deBruijn64tab", Rows.laid_math_bits_deBruijn64tab), ("internal/strconv.uint64pow10", Rows.laid_internal_strconv_uint64pow10)]
theorem laid64_eq : (Rows.laid_math_bits_deBruijn64tab : DataW Unit) = Lib.tabData .u8 (Lib.deBruijn64tab.map fun n => ((n : Nat) : Int)) := by rfl
theorem laidPow_eq : (Rows.laid_internal_strconv_uint64pow10 : DataW Unit) = Lib.tabData .u64 Lib.pow10Tab := by rfl
theorem laidMet_tail {P : Program} {x : String × DataW Unit} {r : List (String × DataW Unit)} {W : World} (h : laidMet P (x :: r) W) : laidMet P r W := by
  obtain ⟨ps, ⟨g, t, cs, fuel, p, q, _, _, _, _, hq, rfl⟩, hnd, hall⟩ := h
  refine ⟨q, hq, (List.nodup_append.1 hnd).2.1, fun b off hb => hall b off (List.mem_append_right _ hb)⟩
theorem tabs_of_laid {W : World} (h : laidMetH Tryd.prog laid3 W) : Tabs W := by
  rw [MakeChecks.laidMetH_plain _ _ _ (by kernel_rfl)] at h
  have h1 := laidMet_tail h
  have h2 := laidMet_tail h1
  rw [laid64_eq] at h1
  rw [laidPow_eq] at h2
  have t1 : Lib.TabIs Tryd.prog W "math/bits.deBruijn64tab" .u8 _ := Lib.tabIs_of_head g64 g64Type Tryd.underlying61 Tryd.underlying5 cells5 cells61 h1
  have t2 : Lib.TabIs Tryd.prog W "internal/strconv.uint64pow10" .u64 _ := Lib.tabIs_of_head gPow gPowType Tryd.underlying82 Tryd.underlying54 cells54 cells82 h2
  refine ⟨fun j hj => ?_, t2⟩
  have := t1.cell g64 j (by simpa using hj)
  rw [this]
  simp [List.getD, hj]
/-- The door's own heap meets the condition. -/
theorem door_met (os : Os) (args : Array Value) : laidMetH Tryd.prog laid3 ((World.doorLaid Tryd.prog 400 os).forCall (fun _ _ => 0) ⟨#[], args, []⟩).memory :=
  laidMetH_of_parts3 (fuel := 8) (laidMet_of_run' 8 (by kernel_rfl) (by kernel_rfl)) (by kernel_rfl) (by kernel_rfl)
end Go.Proofs.YtckdcceglmlinaaDoor
