/- In one: The walk of combineCommonParents: equal choices of a row become one, the first. Condition: the choices lie in memory outside the row and are well made. The walk of ZZCombineCommonParents. Condition: the table is good, the numbers are nodes of it. The law FnMergeItself: its walk. Condition: none but that the table reads. -/
import Derived.Test.YtcbabfndfikejaaZ4
import Derived.Laws.MakeOwn
import Derived.Test.YtcbabfndfikejaaZ9
import Derived.Test.YtcbabfndfikejaaZ10
namespace Go.Proofs.Ytcbabfndfikejaa
open Go.RowKit
set_option linter.unusedSimpArgs false
/-- what the store knows behind these -/
def knFold (l : List Kn) : List Kn := l.foldl (fun kn x => knAdd kn x.1 x.2.1 x.2.2) []
theorem knFold_snoc (l : List Kn) (x : Kn) : knFold (l ++ [x]) = knAdd (knFold l) x.1 x.2.1 x.2.2 := by simp [knFold]
theorem fstK_append (l m : List Kn) (k : Nat) (f : Tops) : fstK (l ++ m) k f = (fstK l k f).or (fstK m k f) := by
  unfold fstK
  rw [List.find?_append]
  cases l.find? (treeIs k f) <;> rfl
theorem fstK_one (p : Addr) (k k' : Nat) (f f' : Tops) : fstK [(p, k', f')] k f = if (k', f') = (k, f) then some p else none := by
  unfold fstK
  by_cases h : (k', f') = (k, f)
  · rw [if_pos h]
    have : treeIs k f (p, k', f') = true := decide_eq_true h
    simp [List.find?, this]
  · rw [if_neg h]
    have : treeIs k f (p, k', f') = false := decide_eq_false h
    simp [List.find?, this]
theorem fstK_fold (l : List Kn) (k : Nat) (f : Tops) : fstK (knFold l) k f = fstK l k f := by
  have key : ∀ (n : Nat) (l : List Kn), l.length = n → ∀ k f, fstK (knFold l) k f = fstK l k f := by
    intro n
    induction n with
    | zero => intro l hl k f; rw [List.eq_nil_of_length_eq_zero hl]; rfl
    | succ n ih =>
      intro l hl k f
      rcases List.eq_nil_or_concat l with rfl | ⟨l', x, rfl⟩
      · rfl
      · rw [List.concat_eq_append] at hl ⊢
        have ih' := ih l' (by simpa using hl)
        rw [knFold_snoc, fstK_append]
        obtain ⟨p, k', f'⟩ := x
        unfold knAdd
        simp only
        rw [fstK_one]
        split
        · rename_i h
          rw [ih']
          rw [ih'] at h
          by_cases he : (k', f') = (k, f)
          · cases he
            cases h2 : fstK l' k f with
            | none => rw [h2] at h; cases h
            | some q => rfl
          · rw [if_neg he]; cases fstK l' k f <;> rfl
        · rename_i h
          rw [fstK_append, ih', fstK_one]
  exact key _ l rfl k f
theorem knAdd_len (kn : List Kn) (p : Addr) (k : Nat) (f : Tops) : (knAdd kn p k f).length ≤ kn.length + 1 := by unfold knAdd; split <;> simp
theorem knFold_len (l : List Kn) : (knFold l).length ≤ l.length := by
  have key : ∀ (n : Nat) (l : List Kn), l.length = n → (knFold l).length ≤ n := by
    intro n
    induction n with
    | zero => intro l hl; rw [List.eq_nil_of_length_eq_zero hl]; simp [knFold]
    | succ n ih =>
      intro l hl
      rcases List.eq_nil_or_concat l with rfl | ⟨l', x, rfl⟩
      · simp at hl
      · rw [List.concat_eq_append] at hl ⊢
        have := ih l' (by simpa using hl)
        rw [knFold_snoc]
        have := knAdd_len (knFold l') x.1 x.2.1 x.2.2
        omega
  exact key _ l rfl
theorem knAdd_mem {kn : List Kn} {p : Addr} {k : Nat} {f : Tops} {x : Kn} (h : x ∈ knAdd kn p k f) : x ∈ kn ∨ x = (p, k, f) := by
  unfold knAdd at h
  split at h
  · exact .inl h
  · rcases List.mem_append.1 h with h | h
    · exact .inl h
    · simp at h; exact .inr h
theorem knFold_mem {l : List Kn} {x : Kn} (h : x ∈ knFold l) : x ∈ l := by
  have key : ∀ (n : Nat) (l : List Kn), l.length = n → ∀ x ∈ knFold l, x ∈ l := by
    intro n
    induction n with
    | zero => intro l hl x hx; rw [List.eq_nil_of_length_eq_zero hl] at hx; simp [knFold] at hx
    | succ n ih =>
      intro l hl x hx
      rcases List.eq_nil_or_concat l with rfl | ⟨l', y, rfl⟩
      · simp at hl
      · rw [List.concat_eq_append] at hl hx ⊢
        rw [knFold_snoc] at hx
        rcases knAdd_mem hx with h1 | h1
        · exact List.mem_append_left _ (ih l' (by simpa using hl) x h1)
        · rw [h1]; simp
  exact key _ l rfl x h
/-- the addresses of known choices -/
def adr (l : List Kn) : List Addr := l.map (·.1)
/-- for each the first that is equal -/
def fstOf (l : List Kn) (x : Kn) : Addr := (fstK l x.2.1 x.2.2).getD x.1
def AllX (w : World) (X : Nat → Prop) (l : List Kn) : Prop := ∀ x ∈ l, Rep w X x.1 x.2.1 x.2.2 ∧ Wf x.2.1 x.2.2
theorem AllX.noX {w : World} {X : Nat → Prop} {l : List Kn} (h : AllX w X l) : AllK w l := fun x hx => ⟨(h x hx).1.noX, (h x hx).2⟩
theorem AllX.stay {w w' : World} {X : Nat → Prop} {l : List Kn} (h : AllX w X l) (hs : Stay w w') : AllX w' X l := fun x hx => ⟨(h x hx).1.stay hs, (h x hx).2⟩
theorem AllX.move {w w' : World} {X X' : Nat → Prop} {l : List Kn} (h : AllX w X l) (hs : Move X X' w w') : AllX w' X' l := fun x hx => ⟨(h x hx).1.move hs, (h x hx).2⟩
theorem adr_at {l : List Kn} {j : Nat} {u : Value} (h : (ptrs (adr l))[j]? = some u) : ∃ x, l[j]? = some x ∧ u = .pointer (some x.1) := by
  obtain ⟨q, h1, h2⟩ := ptrs_at h
  simp only [adr, List.getElem?_map, Option.map_eq_some_iff] at h1
  obtain ⟨x, h3, rfl⟩ := h1
  exact ⟨x, h3, h2⟩
theorem JS.far {B : Nat} {w : World} {s : Nat} {kn : List Kn} (h : JS B w s kn) {p : Addr} (hp : p.block < B) (u : Value) : JS B (w.setCell p u) s kn := by
  obtain ⟨m, c, len, T, hsb, hBs, hBm, h0, h1, hmap, hown, hap, hbk⟩ := h
  have hset : w.grownBy (w.setCell p u) (some p.block) := ⟨rfl, rfl, rfl, by simp [World.setCell], fun j _ hj => Below.heap_setCell _ _ _ _ (fun e => hj (by rw [e]))⟩
  refine ⟨m, c, len, T, (Below.heap_setCell _ _ _ _ (by omega)).trans hsb, hBs, hBm, h0, h1, hmap.grown hset (fun e => by injection e with e; omega), fun x hx => ⟨(hown x hx).1.kept hset (.inr (fun e => by have := ((hown x hx).1.lt _ e).1; omega)), (hown x hx).2⟩, hap, hbk⟩
theorem knFold_take {l : List Kn} {j : Nat} {x : Kn} (h : l[j]? = some x) : knFold (l.take (j + 1)) = knAdd (knFold (l.take j)) x.1 x.2.1 x.2.2 := by
  rw [take_snoc' _ _ _ h, knFold_snoc]
/-- the row behind j rounds of the second loop -/
def rowJ (l : List Kn) (j : Nat) : List Addr := (l.take j).map (fstOf l) ++ adr (l.drop j)
theorem rowJ_at {l : List Kn} {j : Nat} {x : Kn} (h : l[j]? = some x) : (rowJ l j)[j]? = some x.1 ∧ (rowJ l j).set j (fstOf l x) = rowJ l (j + 1) := by
  have hlt : j < l.length := (List.getElem?_eq_some_iff.1 h).1
  have hd : l.drop j = x :: l.drop (j + 1) := by
    rw [List.drop_eq_getElem_cons hlt]
    rw [List.getElem?_eq_getElem hlt] at h
    injection h with h; rw [h]
  unfold rowJ
  have hlen : ((l.take j).map (fstOf l)).length = j := by simp; omega
  constructor
  · rw [List.getElem?_append_right (by omega), hlen, Nat.sub_self, hd]; rfl
  · rw [List.set_append_right _ _ (by omega), hlen, Nat.sub_self, hd, take_snoc' _ _ _ h, List.map_append]
    simp [adr]
theorem ptrs_set (qs : List Addr) (j : Nat) (q : Addr) : (ptrs qs).set j (.pointer (some q)) = ptrs (qs.set j q) := by simp [ptrs, List.map_set]
set_option maxRecDepth 20000 in
set_option maxHeartbeats 4000000 in
theorem combine_any (base g rb c : Nat) (l : List Kn) (w : World) (hg : w.heap[g]? = some (.cells #[.slice (some ⟨rb, 0, none⟩) l.length c] 73 (0, 0))) (hown : w.ownsRow base 72 1 (.slice (some ⟨rb, 0, none⟩) l.length c) l.length (ptrs (adr l)))
    (hall : AllX w (fun x => x = rb) l) (hm : l.length ≤ 1000) :
    Calls Try.prog 54 #[.pointer (some ⟨g, 0, none⟩)] w (fun e w' => e = .returned (.tuple #[]) ∧ w'.ownsRow base 72 1 (.slice (some ⟨rb, 0, none⟩) l.length c) l.length (ptrs (l.map (fstOf l))) ∧ w.grownBy w' (some rb)) := by
  have c0 : w.cell? ⟨g, 0, none⟩ = some (.slice (some ⟨rb, 0, none⟩) l.length c) := cell_of hg 0
  have hgl : g < w.heap.size := (Array.getElem?_eq_some_iff.1 hg).1
  have hrl : rb < w.heap.size := (hown.lt rb rfl).2
  have hgr : g ≠ rb := fun e => own_cells_ne hown hg (by decide) (by rw [e]; rfl)
  have HG := Lib.hid hg
  have HO := Lib.hid hown
  have HA := Lib.hid hall
  clear hg hown hall
  go_enter Try.func54, Try.ntmps54
  go_wp2_with fail
  refine (newJStore_any _ _ _).mono ?_
  rintro e w1 ⟨rfl, hw1⟩
  have hb1 : Below w.heap.size w w1 := by rw [hw1]; exact below_alloc' (below_alloc' (below_alloc' (Below.refl _ _) _) _) _
  have hs1 : (w.alloc (Obj.cells #[] 106)).heap.size + 1 = w.heap.size + 2 := by simp
  rw [hs1]
  have HJ1 : Hid (JS w.heap.size w1 (w.heap.size + 2) []) := Lib.hid (by
    rw [hw1]
    refine ⟨w.heap.size + 1, ⟨w.heap.size, 0, none⟩, 0, [], ?_, by omega, by omega, Int.le_refl _, by simp, ?_, fun x hx => (by cases hx), List.Pairwise.nil, fun h => rfl⟩
    · have := heap_new' (w := (w.alloc (Obj.cells #[] 106)).alloc (.map #[] 0)) (o := .cells #[.map (some (w.alloc (Obj.cells #[] 106)).heap.size), .int .i64 0, .iface 104 (.pointer (some ⟨w.heap.size, 0, none⟩))] 131) (g := w.heap.size + 2) (by simp)
      rw [this]
      simp
    · refine ⟨#[], 0, ?_, rfl⟩
      have e1 := heap_alloc_old ((w.alloc (Obj.cells #[] 106)).alloc (.map #[] 0)) (.cells #[.map (some (w.alloc (Obj.cells #[] 106)).heap.size), .int .i64 0, .iface 104 (.pointer (some ⟨w.heap.size, 0, none⟩))] 131) (r := w.heap.size + 1) (by simp)
      rw [e1]
      exact heap_new' (by simp))
  have HB1 := Lib.hid hb1
  clear hw1 hb1 hs1
  go_wp2_with fail
  go_loopw [3] (fun i wr => ∃ j : Nat, j ≤ l.length ∧ i = .int .i64 j ∧ Hid (JS w.heap.size wr (w.heap.size + 2) (knFold (l.take j))) ∧ Hid (Below w.heap.size w wr)) (fun i _ => l.length - (intOf i).toNat)
  case atStart => exact ⟨0, Nat.zero_le _, rfl, HJ1, HB1⟩
  case round =>
    obtain ⟨j, hj, rfl, HJ, HB⟩ := hrel
    have c0' : wr.cell? ⟨g, 0, none⟩ = some (.slice (some ⟨rb, 0, none⟩) l.length c) := cell_bel c0 HB.out
    by_cases hlt : j < l.length
    · have hlj := List.getElem?_eq_getElem hlt
      obtain ⟨b, off, u, he, _, hu, hc⟩ := (Reads.of_own (ownsRow_ext HO.out HB.out)).at1 hlt
      cases he
      obtain ⟨x, hx, rfl⟩ := adr_at hu
      rw [hlj] at hx; cases hx
      have hmem := List.getElem_mem hlt
      generalize l[j] = x at *
      rw [Nat.zero_add] at hc
      have HALL := Lib.hid ((HA.out.stay (Stay.of_below HB.out)).noX)
      have HX := Lib.hid (HALL.out x hmem)
      have HKN := Lib.hid (show AllK wr (knFold (l.take j)) from fun y hy => HALL.out y (List.mem_of_mem_take (knFold_mem hy)))
      have HLEN := Lib.hid (show (knFold (l.take j)).length ≤ 1000 from Nat.le_trans (knFold_len _) (by rw [List.length_take]; omega))
      have HF := Lib.hid (knFold_take hlj)
      clear hu hlj hmem
      go_wp2_with fail
      refine (storePut_any w.heap.size wr (w.heap.size + 2) (knFold (l.take j)) x.1 x.2.1 x.2.2 HJ.out HKN.out HLEN.out HX.out.1 HX.out.2).mono ?_
      rintro e w2 ⟨r, ok, rfl, hj2, hb2⟩
      have HJ2 := Lib.hid hj2
      have HB2 := Lib.hid (HB.out.trans hb2)
      clear hj2 hb2
      go_wp2_with fail
      go_roundw
      case rel => exact ⟨j + 1, by omega, by go_num, Lib.hid (by rw [HF.out]; exact HJ2.out), HB2⟩
      case measure => simp [intOf]; omega
    · have hjn : j = l.length := by omega
      have HJF := Lib.hid (show JS w.heap.size wr (w.heap.size + 2) (knFold l) by have := HJ.out; rwa [hjn, List.take_length] at this)
      clear hjn
      have HLEN := Lib.hid (show (knFold l).length ≤ 1000 from Nat.le_trans (knFold_len _) hm)
      obtain ⟨w0, hw0⟩ : ∃ w0 : World, w0 = wr := ⟨_, rfl⟩
      rw [← hw0]
      have HBW := Lib.hid (show Below w.heap.size w w0 by rw [hw0]; exact HB.out)
      have HJW := Lib.hid (show JS w.heap.size w0 (w.heap.size + 2) (knFold l) by rw [hw0]; exact HJF.out)
      clear hw0
      have c0w : w0.cell? ⟨g, 0, none⟩ = some (.slice (some ⟨rb, 0, none⟩) l.length c) := cell_bel c0 HBW.out
      have hsz0 := HBW.out.size
      go_wp2_with fail
      go_loopw [5] (fun i wx => ∃ j : Nat, j ≤ l.length ∧ i = .int .i64 j ∧ Hid (JS w.heap.size wx (w.heap.size + 2) (knFold l)) ∧ Hid (w0.grownBy wx (some rb)) ∧ Hid (wx.ownsRow base 72 1 (.slice (some ⟨rb, 0, none⟩) l.length c) l.length (ptrs (rowJ l j))) ∧ Hid (AllX wx (fun x => x = rb) l)) (fun i _ => l.length - (intOf i).toNat)
      case atStart => exact ⟨0, Nat.zero_le _, rfl, HJW, Lib.hid (World.grownBy.refl _ _), Lib.hid (by simpa [rowJ] using ownsRow_ext HO.out HBW.out), Lib.hid (HA.out.stay (Stay.of_below HBW.out))⟩
      case round =>
        obtain ⟨j, hj, rfl, HJx, HGx, HOx, HAx⟩ := hrel
        have c0x : wr.cell? ⟨g, 0, none⟩ = some (.slice (some ⟨rb, 0, none⟩) l.length c) := HGx.out.cell c0w (fun e => hgr (Option.some.inj e))
        by_cases hlt : j < l.length
        · have hlj := List.getElem?_eq_getElem hlt
          have hmem := List.getElem_mem hlt
          generalize l[j] = x at *
          obtain ⟨hra, hrs⟩ := rowJ_at hlj
          have hc : wr.cell? ⟨rb, j, none⟩ = some (.pointer (some x.1)) := by
            rw [HOx.out.cellAt _ (by simpa using hlt)]
            simp [ptrs, hra]
          have hfz := HOx.out.frozenAt j
          have HST := Lib.hid (HOx.out.stored j (.pointer (some (fstOf l x))))
          rw [ptrs_set, hrs] at HST
          have HALL := Lib.hid HAx.out.noX
          have HX := Lib.hid (HALL.out x hmem)
          have HKN := Lib.hid (show AllK wr (knFold l) from fun y hy => HALL.out y (knFold_mem hy))
          have HFF := Lib.hid (show (fstK (knFold l) x.2.1 x.2.2).getD x.1 = fstOf l x by unfold fstOf; rw [fstK_fold])
          clear hlj hmem hra hrs
          go_wp2_with fail
          have hgc := storeGet_any w.heap.size wr (w.heap.size + 2) (knFold l) x.1 x.2.1 x.2.2 HJx.out HKN.out HLEN.out HX.out.1 HX.out.2
          rw [HFF.out] at hgc
          refine hgc.mono ?_
          clear hgc
          rintro e w2 ⟨rfl, hd⟩
          obtain ⟨nd, hnd⟩ := hd
          have c0y : w2.cell? ⟨g, 0, none⟩ = some (.slice (some ⟨rb, 0, none⟩) l.length c) := by rw [hnd]; exact c0x
          have hcy : w2.cell? ⟨rb, j, none⟩ = some (.pointer (some x.1)) := by rw [hnd]; exact hc
          have hfy : w2.frozen? ⟨rb, j, none⟩ = false := by rw [hnd]; exact hfz
          have HOy := Lib.hid (show (w2.setCell ⟨rb, j, none⟩ (.pointer (some (fstOf l x)))).ownsRow base 72 1 (.slice (some ⟨rb, 0, none⟩) l.length c) l.length (ptrs (rowJ l (j + 1))) by rw [hnd]; exact HST.out.1)
          have hset : w2.grownBy (w2.setCell ⟨rb, j, none⟩ (.pointer (some (fstOf l x)))) (some rb) := ⟨rfl, rfl, rfl, by simp [World.setCell], fun j _ hj => Below.heap_setCell _ _ _ _ (fun e => hj (by rw [e]))⟩
          have HGy := Lib.hid (grown_grown HGx.out (grown_grown (show wr.grownBy w2 (some rb) by rw [hnd]; exact ⟨rfl, rfl, rfl, Nat.le_refl _, fun _ _ _ => rfl⟩) hset))
          have HJy := Lib.hid (show JS w.heap.size (w2.setCell ⟨rb, j, none⟩ (.pointer (some (fstOf l x)))) (w.heap.size + 2) (knFold l) from JS.far (show JS w.heap.size w2 (w.heap.size + 2) (knFold l) by rw [hnd]; exact HJx.out) hrl _)
          have HAy := Lib.hid (show AllX (w2.setCell ⟨rb, j, none⟩ (.pointer (some (fstOf l x)))) (fun x => x = rb) l from AllX.move (w := w2) (HAx.out.stay (Dr.stay ⟨nd, hnd⟩)) (fun g' cs e he hx hg' => ⟨(Below.heap_setCell _ _ _ _ hx).trans hg', hx⟩))
          clear hnd HST hset
          go_wp2_with fail
          go_roundw
          case rel => exact ⟨j + 1, by omega, by go_num, HJy, HGy, HOy, HAy⟩
          case measure => simp [intOf]; omega
        · have hjn : j = l.length := by omega
          have HR := Lib.hid (show rowJ l j = l.map (fstOf l) by rw [hjn]; simp [rowJ, adr])
          clear hjn
          go_wp2_with fail
          go_end0
          exact ⟨rfl, by rw [← HR.out]; exact HOx.out, grown_grown (grown_of_bel HBW.out) HGx.out⟩
end Go.Proofs.Ytcbabfndfikejaa
namespace Go.Proofs.Ytcbabfndfikejaa
open Go.RowKit
set_option linter.unusedSimpArgs false
theorem run_make_rowN {P : Program} (t e : TypeId) (i : TypeInfo) (z : Value) (ht : P.underlying t = some (.slice e)) (hi : P.info? e = some i) (hz : i.zero = some z)
    (kl kc : IntKind) (n c : Nat) (hnc : n ≤ c) (hbytes : i.bytes * c ≤ 281474976710656) (h63 : c ≤ 9223372036854775807) (w : World) :
    (Instr.makeSlice t (.int kl (n : Int)) (.int kc (c : Int))).run P w = .ok (.slice (some ⟨w.heap.size, 0, none⟩) n c) (w.alloc (.cells (madeCells z.cells (c * i.size)) e)) := by
  have hb : (i.bytes : Int) * (c : Int) ≤ 281474976710656 := by
    have h : ((i.bytes * c : Nat) : Int) ≤ 281474976710656 := by omega
    rwa [Int.natCast_mul] at h
  have hr := run_make (P := P) w t e i z ht hi hz kl kc n c (by omega) (by omega) hb (by omega)
  simp only [Int.toNat_natCast] at hr
  exact hr
theorem eqlP_same (w : World) (a : Addr) : (binOp .eql 72 (.pointer (some a)) (.pointer (some a))).run Try.prog w = .ok (.bool true) w := by
  have h2 := size97
  cases e2 : Try.prog.info? 97 with
  | none => rw [e2] at h2; cases h2
  | some j => exact run_eql_ptr_same w a Try.underlying72 e2
theorem eqlP_other (w : World) {a b : Addr} {ca cb : Array Value} (hne : a ≠ b) (ha : w.heap[a.block]? = some (.cells ca 97 (0, 0))) (hb : w.heap[b.block]? = some (.cells cb 97 (0, 0))) :
    (binOp .eql 72 (.pointer (some a)) (.pointer (some b))).run Try.prog w = .ok (.bool false) w := by
  have h2 := size97
  cases e2 : Try.prog.info? 97 with
  | none => rw [e2] at h2; cases h2
  | some j => exact run_eql_ptr_other w Try.underlying72 e2 (by rw [e2] at h2; simp at h2; omega) hne ha hb
end Go.Proofs.Ytcbabfndfikejaa
namespace Go.Proofs.Ytcbabfndfikejaa
open Go.RowKit
set_option linter.unusedSimpArgs false
theorem cl_of_reps {w : World} {X : Nat → Prop} {bs : List (Nat × Tops)} {qs : List Addr} (h : Reps2 w X bs qs) : Cl w qs := fun q hq => by
  obtain ⟨rs, ⟨g, k, h', ss, h1, h2⟩, h3⟩ := h.2 q hq
  exact ⟨g, k, h', ss, rs, h1, h2.move (fun g cs e _ hx hg => ⟨hg, fun h => h⟩), h3⟩
theorem mkTops_srt {bs : List (Nat × Tops)} : ∀ (ps ss : List Int), (∀ j s s', ss[j]? = some s → ss[j + 1]? = some s' → s < s') → (∀ p ∈ ps, (bs.getD p.toNat (0, .nil)).2.srt) → (mkTops bs ps ss).srt
  | _, [], _, _ => by rw [mkTops_nil]; trivial
  | [], s :: ss, _, _ => trivial
  | p :: ps, s :: ss, h, hp => by
    refine ⟨fun t ht => ?_, hp p (List.mem_cons_self ..), mkTops_srt ps ss (fun j s s' h1 h2 => h (j + 1) s s' (by simpa using h1) (by simpa using h2)) (fun x hx => hp x (List.mem_cons_of_mem _ hx))⟩
    have key : ∀ (l : List Int) (a : Int), (∀ j s s', (a :: l)[j]? = some s → (a :: l)[j + 1]? = some s' → s < s') → ∀ t ∈ l, a < t := by
      intro l
      induction l with
      | nil => intro a _ t ht; cases ht
      | cons b l ih =>
        intro a hh t ht
        have hab := hh 0 a b rfl rfl
        rcases List.mem_cons.1 ht with rfl | ht
        · exact hab
        · exact Int.lt_trans hab (ih b (fun j s s' h1 h2 => hh (j + 1) s s' (by simpa using h1) (by simpa using h2)) t ht)
    have hsub : ∀ (ps ss : List Int) (t : Int), t ∈ (mkTops bs ps ss).sts → t ∈ ss := by
      intro ps ss
      induction ss generalizing ps with
      | nil => intro t ht; rw [mkTops_nil] at ht; cases ht
      | cons b l ih =>
        intro t ht
        cases ps with
        | nil => cases ht
        | cons p ps =>
          rcases List.mem_cons.1 ht with rfl | ht
          · exact List.mem_cons_self ..
          · exact List.mem_cons_of_mem _ (ih ps t ht)
    exact key ss s h t (hsub ps ss t ht)
theorem tr_srt {ns : List Nd} (hg : GoodT ns) : ∀ (n k : Nat), k < n → k < ns.length → (tr ns k).2.srt
  | 0, _, h, _ => absurd h (by omega)
  | n + 1, k, hk, hl => by
    have hnd := List.getElem?_eq_getElem hl
    generalize ns[k] = nd at *
    rw [tr_eq hg.tab hnd]
    obtain ⟨hpl, h4, hok⟩ := hg.2 k nd hl hnd
    refine mkTops_srt _ _ (fun j s s' h1 h2 => ?_) (fun p hp => ?_)
    · obtain ⟨s1, _, e1, _, _, _, _, _, hs⟩ := hok (j + 1) (List.getElem?_eq_some_iff.1 h2).1
      obtain ⟨s0, e0, hlt⟩ := hs (by omega)
      simp at e0
      rw [h1] at e0
      cases e0
      rw [h2] at e1
      cases e1
      exact hlt
    · obtain ⟨j, hj⟩ := List.mem_iff_getElem?.1 hp
      obtain ⟨s, p', e1, e2, _, _, h0, hlt, _⟩ := hok j (by rw [← hpl]; exact (List.getElem?_eq_some_iff.1 hj).1)
      rw [hj] at e2
      cases e2
      have := tr_srt hg n p.toNat (by omega) (by omega)
      exact this
/-! ### a merge, by the way to it and from it -/
/-- A table is handed back, whose last choice has these tops. -/
def TabN (N : Nat) (f : Tops) (w : World) (e : Ending) (w' : World) : Prop := ∃ A c ms, e = .returned (.slice A ms.length c) ∧ Tbl w' w'.heap.size A ms ∧ TG ms ∧ 0 < ms.length ∧ ms.length ≤ N ∧ tr ms (ms.length - 1) = (kindOf f.len, nrm f) ∧ Below w.heap.size w w'
theorem back_tab (A : Option Addr) (c N : Nat) (ms : List Nd) (w : World) (ht : Tbl w w.heap.size A ms) (hg : TG ms) (hN : N ≤ 1000) (hl : ms.length ≤ N) :
    Calls Try.prog 42 #[.slice A ms.length c] w (fun e w' => ∃ A' c', e = .returned (.slice A' ms.length c') ∧ Tbl w' w'.heap.size A' ms ∧ Below w.heap.size w w') := by
  refine (back_any A c ms w ht ⟨by omega, fun k nd hk => ⟨by rw [(hg k nd hk).1]; exact (hg k nd hk).2.1, (hg k nd hk).2.1⟩⟩).mono ?_
  rintro e w' ⟨v, rfl, ho, hb⟩
  obtain ⟨A', c', rfl, ht'⟩ := ho.tbl
  exact ⟨A', c', rfl, ht', hb⟩
end Go.Proofs.Ytcbabfndfikejaa
