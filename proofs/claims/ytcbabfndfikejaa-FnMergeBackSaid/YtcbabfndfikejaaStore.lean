/- The store of choices (JStore): how it lies in memory, and the walks of its making, of Get and of Put. Condition: the choices lie in memory and are well made. -/
import Derived.Test.YtcbabfndfikejaaEqu
import Derived.Test.YtcbabfndfikejaaMapI
namespace Go.Proofs.Ytcbabfndfikejaa
open Go.RowKit
set_option linter.unusedSimpArgs false

theorem method_hash (a : Addr) (w : World) : (method 269 72 (.pointer (some a)) "Hash").run Try.prog w = .ok (53, .pointer (some a)) w := by kernel_rfl
theorem method_equals (a : Addr) (w : World) : (method 269 72 (.pointer (some a)) "Equals").run Try.prog w = .ok (52, .pointer (some a)) w := by kernel_rfl
theorem method_hash1 (a : Addr) (w : World) : (method 269 104 (.pointer (some a)) "Hash1").run Try.prog w = .ok (124, .pointer (some a)) w := by kernel_rfl
theorem method_equals2 (a : Addr) (w : World) : (method 269 104 (.pointer (some a)) "Equals2").run Try.prog w = .ok (123, .pointer (some a)) w := by kernel_rfl
set_option maxRecDepth 20000 in
theorem hash1_any (c : Addr) (X : Nat → Prop) (p : Addr) (k : Nat) (f : Tops) (w : World) (h : Rep w X p k f) : Calls Try.prog 124 #[.pointer (some c), .pointer (some p)] w (IntPost (hsh k f) w) := by
  have H := Lib.hid h
  have qm := method_hash
  clear h
  go_enter Try.func124, Try.ntmps124
  go_wp2_with (go_at_call 53; refine (Hash_any _ _ _ _ _ H.out).mono ?_; rintro e w' ⟨rfl, rfl⟩)
  go_ret
  exact ⟨rfl, rfl⟩
set_option maxRecDepth 20000 in
theorem equals2_any (c : Addr) (f : Tops) (k : Nat) (f' : Tops) (k' : Nat) (p q : Addr) (w : World) (h : Rep w NoX p k f) (h' : Rep w NoX q k' f') (hw : Wf k f) (hw' : Wf k' f') :
    Calls Try.prog 123 #[.pointer (some c), .pointer (some p), .pointer (some q)] w (EqPost (eqB k f k' f') w) := by
  have H := Lib.hid (equals_any f k f' k' p q w h h' hw hw')
  have qm := method_equals
  clear h h' hw hw'
  go_enter Try.func123, Try.ntmps123
  go_wp2_with fail
  refine H.out.mono ?_
  rintro e w' ⟨rfl, hd⟩
  have HD := Lib.hid hd
  clear hd
  go_wp2_with fail
  go_ret
  exact ⟨rfl, HD.out⟩

theorem newJStore_any (c : Addr) (s : ByteArray) (w : World) : Calls Try.prog 72 #[.iface 104 (.pointer (some c)), .int .i64 5, .string s] w
    (fun e w' => e = .returned (.pointer (some ⟨w.heap.size + 1, 0, none⟩)) ∧ w' = (w.alloc (.map #[] 0)).alloc (.cells #[.map (some w.heap.size), .int .i64 0, .iface 104 (.pointer (some c))] 131)) := by
  have hmm : ∀ w : World, (Instr.makeMap 129 (some (.int .i64 1))).run Try.prog w = .ok (.map (some w.heap.size)) (w.alloc (.map #[] 0)) := fun w => by
    simp [Instr.makeMap, run_underlying Try.underlying129]; rfl
  have hn : ∀ (w : World) x, (binOp .eql 103 (.iface 104 x) .nilIface).run Try.prog w = .ok (.bool false) w := fun w x => by simp [go_sem, Try.underlying103]
  go_enter Try.func72, Try.ntmps72
  go_wp2
  go_ret
  exact ⟨rfl, rfl⟩

/-- a known choice: its address, its kind and its tops -/
abbrev Kn := Addr × Nat × Tops
def hashIs (h : Int) (x : Kn) : Bool := decide (hsh x.2.1 x.2.2 = h)
def treeIs (k : Nat) (f : Tops) (x : Kn) : Bool := decide (x.2 = (k, f))
/-- the first known one that is equal -/
def fstK (kn : List Kn) (k : Nat) (f : Tops) : Option Addr := (kn.find? (treeIs k f)).map (·.1)
theorem find_filter (kn : List Kn) (k : Nat) (f : Tops) : (kn.filter (hashIs (hsh k f))).find? (treeIs k f) = kn.find? (treeIs k f) := by
  induction kn with
  | nil => rfl
  | cons a t ih =>
    by_cases h : treeIs k f a = true
    · have h2 : hashIs (hsh k f) a = true := by
        unfold treeIs at h; unfold hashIs
        have := of_decide_eq_true h
        rw [this]; exact decide_eq_true rfl
      rw [List.filter_cons_of_pos h2, List.find?_cons_of_pos h, List.find?_cons_of_pos h]
    · rw [List.find?_cons_of_neg h]
      by_cases h2 : hashIs (hsh k f) a = true
      · rw [List.filter_cons_of_pos h2, List.find?_cons_of_neg h, ih]
      · rw [List.filter_cons_of_neg h2, ih]
theorem find_at {l : List Kn} {P : Kn → Bool} {j : Nat} {y : Kn} (h : ∀ i, i < j → ∀ x, l[i]? = some x → P x = false) (hj : l[j]? = some y) (hy : P y = true) : l.find? P = some y := by
  induction l generalizing j with
  | nil => simp at hj
  | cons a t ih =>
    cases j with
    | zero => simp at hj; subst hj; exact List.find?_cons_of_pos hy
    | succ j =>
      have h0 := h 0 (by omega) a rfl
      rw [List.find?_cons_of_neg (by rw [h0]; decide)]
      exact ih (j := j) (fun i hi x hx => h (i + 1) (by omega) x (by simpa using hx)) (by simpa using hj)
theorem find_no {l : List Kn} {P : Kn → Bool} (h : ∀ i, i < l.length → ∀ x, l[i]? = some x → P x = false) : l.find? P = none := by
  rw [List.find?_eq_none]
  intro x hx
  obtain ⟨i, hi⟩ := List.getElem?_of_mem hx
  rw [h i (List.getElem?_eq_some_iff.1 hi).1 x hi]; decide

/-- the buckets: hash, the slice, its pointers -/
abbrev Bk := Int × Value × List Addr
def bkt : List Bk → Int → List Addr
  | [], _ => []
  | (x, _, l) :: t, h => if h = x then l else bkt t h
def bval : List Bk → Int → Value
  | [], _ => .slice none 0 0
  | (x, v, _) :: t, h => if h = x then v else bval t h
theorem bval_look : ∀ (T : List Bk) (h : Int), (Prs.look (T.map fun x => (x.1, x.2.1)) h).getD (.slice none 0 0) = bval T h
  | [], _ => rfl
  | (x, v, l) :: t, h => by
    simp only [List.map_cons, Prs.look, bval]
    split
    · rfl
    · exact bval_look t h
/-- The store lies at s. -/
def JS (B : Nat) (w : World) (s : Nat) (kn : List Kn) : Prop :=
  ∃ (m : Nat) (c : Addr) (len : Int) (T : List Bk),
    w.heap[s]? = some (.cells #[.map (some m), .int .i64 len, .iface 104 (.pointer (some c))] 131 (0, 0)) ∧ B ≤ s ∧ B ≤ m ∧ 0 ≤ len ∧ len ≤ kn.length ∧
    MapAt w m (T.map fun x => (x.1, x.2.1)) ∧ (∀ x ∈ T, w.ownsRow B 72 1 x.2.1 x.2.2.length (ptrs x.2.2) ∧ 0 < x.2.2.length) ∧
    T.Pairwise (fun x y => x.2.1.ownBlock ≠ y.2.1.ownBlock) ∧ ∀ h, bkt T h = (kn.filter (hashIs h)).map (·.1)
theorem bval_own {w : World} {B : Nat} : ∀ {T : List Bk} (h : Int), (∀ x ∈ T, w.ownsRow B 72 1 x.2.1 x.2.2.length (ptrs x.2.2) ∧ 0 < x.2.2.length) → w.ownsRow B 72 1 (bval T h) (bkt T h).length (ptrs (bkt T h))
  | [], _, _ => World.ownsRow_nil _ _ _ _
  | (x, v, l) :: t, h, ha => by
    unfold bval bkt
    split
    · exact (ha _ (List.mem_cons_self ..)).1
    · exact bval_own h (fun x hx => ha x (List.mem_cons_of_mem _ hx))
theorem under73 : Try.prog.underlying 73 = some (.slice 72) := Try.underlying73
theorem zero73 (w : World) : (zeroValue 73).run Try.prog w = .ok (.slice none 0 0) w := by kernel_rfl

/-- All known choices lie in memory and are well made. -/
def AllK (w : World) (kn : List Kn) : Prop := ∀ x ∈ kn, Rep w NoX x.1 x.2.1 x.2.2 ∧ Wf x.2.1 x.2.2
def TuplePost (p : Addr) (ok : Bool) (w : World) (e : Ending) (w' : World) : Prop := e = .returned (.tuple #[.pointer (some p), .bool ok]) ∧ Dr w w'

set_option maxRecDepth 20000 in
set_option maxHeartbeats 2000000 in
theorem storeGet_any (B : Nat) (w : World) (s : Nat) (kn : List Kn) (p : Addr) (k : Nat) (f : Tops) (hs : JS B w s kn) (hkn : AllK w kn) (hm : kn.length ≤ 1000) (hp : Rep w NoX p k f) (hw : Wf k f) :
    Calls Try.prog 74 #[.pointer (some ⟨s, 0, none⟩), .pointer (some p)] w (TuplePost ((fstK kn k f).getD p) (fstK kn k f).isSome w) := by
  obtain ⟨m, c, len, T, hsb, _, _, _, _, hmap, hown, _, hbk⟩ := hs
  have c0 : w.cell? ⟨s, 0, none⟩ = some (.map (some m)) := cell_of hsb 0
  have c2 : w.cell? ⟨s, 2, none⟩ = some (.iface 104 (.pointer (some c))) := cell_of hsb 2
  have hlk := run_lookup_int (P := Try.prog) Try.underlying129 Try.underlying3 hmap (hsh k f) _ (zero73 w)
  rw [bval_look] at hlk
  have hbo := bval_own (hsh k f) hown
  have hbl := hbk (hsh k f)
  have hfl : (kn.filter (hashIs (hsh k f))).length ≤ 1000 := Nat.le_trans (List.length_filter_le _ _) hm
  have hff := find_filter kn k f
  generalize hbs : kn.filter (hashIs (hsh k f)) = bl at *
  have HAK := Lib.hid (show AllK w bl from fun x hx => hkn x (by rw [← hbs] at hx; exact (List.mem_filter.1 hx).1))
  rw [hbl] at hbo
  obtain ⟨A, c', hv, hrd⟩ := own_slice hbo
  rw [hv] at hlk
  have hln : (bl.map (·.1)).length = bl.length := by simp
  rw [hln] at hrd hlk
  have HRD := Lib.hid hrd
  have HP := Lib.hid hp
  have HW := Lib.hid hw
  have HFF := Lib.hid (show fstK kn k f = (bl.find? (treeIs k f)).map (·.1) by unfold fstK; rw [hff])
  have q1 := method_hash1
  have q2 := method_equals2
  clear hsb hmap hown hbk hbo hbl hff hbs hkn hp hw hv hrd hln hm
  go_enter Try.func74, Try.ntmps74
  go_wp2_with fail
  refine (hash1_any c _ _ _ _ _ HP.out).mono ?_
  rintro e w' ⟨rfl, rfl⟩
  go_wp2_with fail
  go_loopw [22] (fun i wr => ∃ j : Nat, j ≤ bl.length ∧ i = .int .i64 j ∧ Hid (∀ i, i < j → ∀ x, bl[i]? = some x → treeIs k f x = false) ∧ Hid (Dr w wr)) (fun i _ => bl.length - (intOf i).toNat)
  case atStart => exact ⟨0, Nat.zero_le _, rfl, Lib.hid (fun i hi => absurd hi (by omega)), Lib.hid (Dr.refl _)⟩
  case round =>
    obtain ⟨j, hj, rfl, HN, HD⟩ := hrel
    have c2' : wr.cell? ⟨s, 2, none⟩ = some (.iface 104 (.pointer (some c))) := cell_bel c2 HD.out.below
    by_cases hlt : j < bl.length
    · have hbj := List.getElem?_eq_getElem hlt
      obtain ⟨b, off, u, rfl, _, hu, hc⟩ := (HRD.out.ext HD.out.below).at1 hlt
      obtain ⟨y, hy, rfl⟩ := ptrs_at hu
      rw [List.getElem?_map, hbj] at hy
      simp only [Option.map_some, Option.some.injEq] at hy
      have hak := HAK.out _ (List.getElem_mem hlt)
      generalize bl[j] = x at *
      obtain ⟨q, k1, f1⟩ := x
      simp only at hy hak
      subst hy
      have HBJ := Lib.hid hbj
      have HE := Lib.hid (equals2_any c f k f1 k1 p q wr (HP.out.stay HD.out.stay) (hak.1.stay HD.out.stay) HW.out hak.2)
      clear hbj hu hak
      go_wp2_with fail
      refine HE.out.mono ?_
      rintro e w' ⟨rfl, hd⟩
      have HD' := Lib.hid (HD.out.trans hd)
      clear hd
      by_cases heq : k = k1 ∧ f = f1
      · have HX := Lib.hid (show treeIs k f (q, k1, f1) = true from decide_eq_true (by rw [heq.1, heq.2]))
        rw [eqB_true heq]
        clear heq
        have HF := Lib.hid (show fstK kn k f = some q by rw [HFF.out, find_at HN.out HBJ.out HX.out]; rfl)
        go_wp2_with fail
        go_ret2
        exact ⟨by rw [HF.out]; rfl, HD'.out⟩
      · have HX := Lib.hid (show treeIs k f (q, k1, f1) = false from decide_eq_false (fun e => heq (by cases e; exact ⟨rfl, rfl⟩)))
        rw [eqB_false heq]
        clear heq
        go_wp2_with fail
        go_roundw
        case rel => exact ⟨j + 1, by omega, by go_num, Lib.hid (fun i hi x hx => by
          rcases Nat.lt_or_ge i j with h1 | h1
          · exact HN.out i h1 x hx
          · obtain rfl : i = j := by omega
            rw [HBJ.out] at hx; cases hx; exact HX.out), HD'⟩
        case measure => simp [intOf]; omega
    · have HF := Lib.hid (show fstK kn k f = none by rw [HFF.out, find_no (fun i hi => HN.out i (by omega))]; rfl)
      go_wp2_with fail
      go_ret2
      exact ⟨by rw [HF.out]; rfl, HD.out⟩
end Go.Proofs.Ytcbabfndfikejaa
