/- A store of pairs (JMap, C, in its blocks): the walks of its making, of Get and of Put. Condition: the choices lie in memory and are well made. -/
import Derived.Test.YtcbabfndfikejaaZ4
namespace Go.Proofs.Ytcbabfndfikejaa
open Go.RowKit
set_option linter.unusedSimpArgs false
abbrev JFC (B : Nat) (w : World) (s m : Nat) (es : List Ent) (F : Nat → Prop) : Prop := JF 153 142 144 B w s m es F
/-- All keys lie in memory. -/
def AllKC (w : World) (kn : List Kn) : Prop := ∀ x ∈ kn, KO w x.1 x.2.1 x.2.2
def JNewC (w : World) (e : Ending) (w' : World) : Prop := e = .returned (.pointer (some ⟨w.heap.size + 1, 0, none⟩)) ∧ JFC w.heap.size w' (w.heap.size + 1) w.heap.size [] (fun j => j = w.heap.size ∨ j = w.heap.size + 1) ∧ Below w.heap.size w w'
theorem newJMapC_any (c : Addr) (d : Int) (st : ByteArray) (w : World) : Calls Try.prog 103 #[.iface 104 (.pointer (some c)), .int .i64 d, .string st] w (JNewC w) := by
  have hmm : ∀ w : World, (Instr.makeMap 133 (some (.int .i64 1))).run Try.prog w = .ok (.map (some w.heap.size)) (w.alloc (.map #[] 0)) := fun w => by
    simp [Instr.makeMap, run_underlying Try.underlying133]; rfl
  go_enter Try.func103, Try.ntmps103
  go_wp2
  go_ret
  refine ⟨rfl, ⟨c, 0, [], ?_, by omega, Nat.le_refl _, by decide, by simp, ?_, fun x hx => absurd hx (List.not_mem_nil), List.Pairwise.nil, fun h => rfl, fun x hx => absurd hx (List.not_mem_nil), .inr rfl, .inl rfl, fun x hx => absurd hx (List.not_mem_nil), fun x hx => absurd hx (List.not_mem_nil), fun g hg => by rcases hg with rfl | rfl <;> simp <;> omega⟩, ?_⟩
  · exact heap_new' (by simp)
  · exact ⟨#[], 0, by rw [heap_old' (by simp)]; exact heap_new' rfl, rfl⟩
  · exact ((Below.refl _ w).alloc (Nat.le_refl _) _).alloc (by simp) _
theorem zero141C (w : World) : (zeroValue 141).run Try.prog w = .ok (.slice none 0 0) w := by kernel_rfl
theorem info142C : (Try.prog.info? 142).map (fun i => (i.zero, i.size, i.bytes)) = some (some (.pointer none), 1, 8) := by kernel_rfl
/-- What a look-up answers. -/
def GetPostC (v : Option Addr) (w : World) (e : Ending) (w' : World) : Prop := e = .returned (.tuple #[.pointer v, .bool v.isSome]) ∧ Dr w w'
set_option maxRecDepth 20000 in
set_option maxHeartbeats 2000000 in
theorem jgetC_any (B : Nat) (w : World) (s m : Nat) (es : List Ent) (p : Addr) (k : Nat) (f : Tops) (F : Nat → Prop) (hs : JFC B w s m es F) (hkn : AllKC w (es.map (·.2.1))) (hm : es.length ≤ 1000000000) (hp : KO w p k f) :
    Calls Try.prog 101 #[.pointer (some ⟨s, 0, none⟩), .pointer (some p)] w (GetPostC (fstE es k f) w) := by
  obtain ⟨c, len, T, hsb, _, _, _, _, hmap, hown, _, hbk, hes, _⟩ := hs
  have c0 : w.cell? ⟨s, 0, none⟩ = some (.map (some m)) := cell_of hsb 0
  have c2 : w.cell? ⟨s, 2, none⟩ = some (.iface 104 (.pointer (some c))) := cell_of hsb 2
  have hlk := run_lookup_int (P := Try.prog) Try.underlying133 Try.underlying3 hmap (hsh k f) _ (zero141C w)
  rw [bval_look] at hlk
  have hbo := bval_ownE (hsh k f) hown
  have hbl := hbk (hsh k f)
  have hfl : (es.filter (enHash (hsh k f))).length ≤ 1000000000 := Nat.le_trans (List.length_filter_le _ _) hm
  have hff := findE_filter es k f
  generalize hbs : es.filter (enHash (hsh k f)) = bl at *
  have HAK := Lib.hid (show ∀ x ∈ bl, KO w x.2.1.1 x.2.1.2.1 x.2.1.2.2 ∧ EAt 144 B w x from fun x hx => by
    rw [← hbs] at hx
    have hx := (List.mem_filter.1 hx).1
    have h1 := hkn x.2.1 (List.mem_map_of_mem hx)
    exact ⟨h1, hes x hx⟩)
  rw [hbl] at hbo
  obtain ⟨A, c', hv, hrd⟩ := own_slice hbo
  rw [hv] at hlk
  have hln : (bl.map (·.1)).length = bl.length := by simp
  rw [hln] at hrd hlk
  have HRD := Lib.hid hrd
  have HP := Lib.hid hp
  have HFF := Lib.hid (show fstE es k f = (bl.find? (enIs k f)).map (·.2.2) by unfold fstE; rw [hff])
  have q1 := method_hash1
  have q2 := method_equals2
  clear hsb hmap hown hbk hes hbo hbl hff hbs hkn hp hv hrd hln hm
  go_enter Try.func101, Try.ntmps101
  go_wp2_with fail
  refine (hash1_any c _ _ _ _ _ HP.out.1).mono ?_
  rintro e w' ⟨rfl, rfl⟩
  go_wp2_with fail
  go_loopw [23] (fun i wr => ∃ j : Nat, j ≤ bl.length ∧ i = .int .i64 j ∧ Hid (∀ i, i < j → ∀ x, bl[i]? = some x → enIs k f x = false) ∧ Hid (Dr w wr)) (fun i _ => bl.length - (intOf i).toNat)
  case atStart => exact ⟨0, Nat.zero_le _, rfl, Lib.hid (fun i hi => absurd hi (by omega)), Lib.hid (Dr.refl _)⟩
  case round =>
    obtain ⟨j, hj, rfl, HN, HD⟩ := hrel
    have c2' : wr.cell? ⟨s, 2, none⟩ = some (.iface 104 (.pointer (some c))) := cell_bel c2 HD.out.below
    by_cases hlt : j < bl.length
    · have hbj := List.getElem?_eq_getElem hlt
      obtain ⟨b, off, u, rfl, _, hu, hc⟩ := (HRD.out.ext HD.out.below).at1 hlt
      obtain ⟨y, hy, rfl⟩ := ptrs_at hu
      rw [List.getElem?_map, hbj] at hy
      simp only [Option.map_some, Option.some.injEq] at hy
      have hak := HAK.out _ (List.getElem_mem hlt)
      generalize bl[j] = x at *
      obtain ⟨ea, ⟨q, k1, f1⟩, v⟩ := x
      simp only at hy hak
      subst hy
      obtain ⟨hk1, g, hg0, _, hg⟩ := hak
      simp only at hg0 hg
      subst hg0
      have d0 : wr.cell? ⟨g, 0, none⟩ = some (.pointer (some q)) := cell_bel (cell_of hg 0) HD.out.below
      have d1 : wr.cell? ⟨g, 1, none⟩ = some (.pointer (some v)) := cell_bel (cell_of hg 1) HD.out.below
      have HD0 := Lib.hid d0
      have HD1 := Lib.hid d1
      have HC2 := Lib.hid c2'
      have HBJ := Lib.hid hbj
      have HE := Lib.hid (equals2K_any c f1 k1 f k q p wr.drew ((hk1.stay HD.out.stay).stay (Stay.of_below (below_drew' (Below.refl _ _)))) ((HP.out.stay HD.out.stay).stay (Stay.of_below (below_drew' (Below.refl _ _)))))
      clear hbj hu hk1 hg d0 d1 c2'
      go_wp2_with fail
      refine wp_region_order (fun w' => Below wr.heap.size wr w') [0, 1, 2, 3, 4, 5, 6, 7, 8, 9, 10] [11] (by kernel_rfl) (by kernel_rfl) (below_drew' (Below.refl _ _)) ?_
      repeat
        apply TakesThen.cons rfl rfl
        · intro w' hw'
          have x0 := cell_bel HC2.out hw'
          have x1 := cell_bel HD0.out hw'
          go_simp
          with_reducible rfl
        try simp only [Act.put, List.getElem_toArray, List.getElem_cons_succ, List.getElem_cons_zero, List.setIfInBounds_toArray, List.set_cons_zero, List.set_cons_succ]
      refine TakesThen.nil ?_
      refine Chain.step rfl rfl (fun K hK => ?_)
      go_simp
      refine HE.out.mono ?_
      rintro e w' ⟨rfl, hd⟩
      have HD' := Lib.hid (HD.out.trans ((show Dr wr wr.drew from ⟨_, rfl⟩).trans hd))
      have e1 := cell_bel HD1.out ((show Dr wr wr.drew from ⟨_, rfl⟩).trans hd).below
      have hS := ((show Dr wr wr.drew from ⟨_, rfl⟩).trans hd).below
      try simp only [Act.put, List.getElem_toArray, List.getElem_cons_succ, List.getElem_cons_zero, List.setIfInBounds_toArray, List.set_cons_zero, List.set_cons_succ]
      clear hd
      by_cases heq : k1 = k ∧ f1 = f
      · have HX := Lib.hid (show enIs k f (⟨g, 0, none⟩, (q, k1, f1), v) = true from decide_eq_true (by rw [heq.1, heq.2]))
        rw [eqB_true heq]
        clear heq
        have HF := Lib.hid (show fstE es k f = some v by rw [HFF.out, find_at' HN.out HBJ.out HX.out]; rfl)
        refine hK _ _ hS ?_
        clear hK hS
        try simp only [Act.put, List.getElem_toArray, List.getElem_cons_succ, List.getElem_cons_zero, List.setIfInBounds_toArray, List.set_cons_zero, List.set_cons_succ]
        refine Chain.nil ?_
        go_wp2_with fail
        go_ret2
        exact ⟨by rw [HF.out]; rfl, HD'.out⟩
      · have HX := Lib.hid (show enIs k f (⟨g, 0, none⟩, (q, k1, f1), v) = false from decide_eq_false (fun e => heq (by cases e; exact ⟨rfl, rfl⟩)))
        rw [eqB_false heq]
        clear heq
        refine hK _ _ hS ?_
        clear hK hS
        try simp only [Act.put, List.getElem_toArray, List.getElem_cons_succ, List.getElem_cons_zero, List.setIfInBounds_toArray, List.set_cons_zero, List.set_cons_succ]
        refine Chain.nil ?_
        go_wp2_with fail
        go_roundw
        case rel => exact ⟨j + 1, by omega, by go_num, Lib.hid (fun i hi x hx => by
          rcases Nat.lt_or_ge i j with h1 | h1
          · exact HN.out i h1 x hx
          · obtain rfl : i = j := by omega
            rw [HBJ.out] at hx; cases hx; exact HX.out), HD'⟩
        case measure => simp [intOf]; omega
    · have HF := Lib.hid (show fstE es k f = none by rw [HFF.out, find_no' (fun i hi => HN.out i (by omega))]; rfl)
      go_wp2_with fail
      go_ret2
      exact ⟨by rw [HF.out]; rfl, HD.out⟩
/-- What a store of a pair leaves. -/
def PutPostC (B : Nat) (s m : Nat) (es : List Ent) (p : Addr) (k : Nat) (f : Tops) (v : Addr) (F : Nat → Prop) (w : World) (e : Ending) (w' : World) : Prop :=
  (∃ u, fstE es k f = some u ∧ e = .returned (.tuple #[.pointer (some u), .bool true]) ∧ Dr w w') ∨
  (fstE es k f = none ∧ e = .returned (.tuple #[.pointer (some v), .bool false]) ∧ ∃ a F', JFC B w' s m (es ++ [(a, (p, k, f), v)]) F' ∧ (∀ j, F' j → F j ∨ w.heap.size ≤ j) ∧ Below B w w' ∧ Chg (fun j => F j ∧ JX 142 w s m j) w w')
set_option maxRecDepth 20000 in
set_option maxHeartbeats 4000000 in
theorem jputC_any (B : Nat) (w : World) (s m : Nat) (es : List Ent) (p v : Addr) (k : Nat) (f : Tops) (F : Nat → Prop) (hs : JFC B w s m es F) (hkn : AllKC w (es.map (·.2.1))) (hm : es.length ≤ 1000000000) (hp : KO w p k f) :
    Calls Try.prog 102 #[.pointer (some ⟨s, 0, none⟩), .pointer (some p), .pointer (some v)] w (PutPostC B s m es p k f v F w) := by
  obtain ⟨i0, hi0, hz0, hz1, hz2⟩ := info_parts info142C
  have HJS := Lib.hid hs
  obtain ⟨c, len, T, hsb, hBs, hBm, hlen0, hlen1, hmap, hown, hap, hbk, hes, hF⟩ := hs
  have c0 : w.cell? ⟨s, 0, none⟩ = some (.map (some m)) := cell_of hsb 0
  have c1 : w.cell? ⟨s, 1, none⟩ = some (.int .i64 len) := cell_of hsb 1
  have c2 : w.cell? ⟨s, 2, none⟩ = some (.iface 104 (.pointer (some c))) := cell_of hsb 2
  have hsl : s < w.heap.size := (Array.getElem?_eq_some_iff.1 hsb).1
  have HLK := Lib.hid (show ∀ w', MapAt w' m (T.map fun x => (x.1, x.2.1)) → (Instr.lookup 133 (.map (some m)) (.int .i64 (hsh k f)) false).run Try.prog w' = .ok (bval T (hsh k f)) w' from fun w' hm' => by
    have h1 := run_lookup_int (P := Try.prog) Try.underlying133 Try.underlying3 hm' (hsh k f) _ (zero141C w')
    rwa [bval_look] at h1)
  have hbo := bval_ownE (hsh k f) hown
  have hbl := hbk (hsh k f)
  have hfl : (es.filter (enHash (hsh k f))).length ≤ 1000000000 := Nat.le_trans (List.length_filter_le _ _) hm
  have hff := findE_filter es k f
  generalize hbs : es.filter (enHash (hsh k f)) = bl at *
  have HAK := Lib.hid (show ∀ x ∈ bl, KO w x.2.1.1 x.2.1.2.1 x.2.1.2.2 ∧ EAt 144 B w x from fun x hx => by
    rw [← hbs] at hx
    have hx := (List.mem_filter.1 hx).1
    have h1 := hkn x.2.1 (List.mem_map_of_mem hx)
    exact ⟨h1, hes x hx⟩)
  have hlnb : (bkt T (hsh k f)).length = bl.length := by rw [hbl]; simp
  obtain ⟨A, c', hv, hrd⟩ := own_slice hbo
  rw [hlnb] at hv hrd
  have hlk := HLK.out w hmap
  rw [hv] at hlk
  have HBV := Lib.hid hv
  have HBO := Lib.hid hbo
  have HBLB := Lib.hid hlnb
  have HBL := Lib.hid hbl
  have HRD := Lib.hid hrd
  have HP := Lib.hid hp
  have HFF := Lib.hid (show fstE es k f = (bl.find? (enIs k f)).map (·.2.2) by unfold fstE; rw [hff])
  have HSB := Lib.hid hsb
  have HMAP := Lib.hid hmap
  have HOWN := Lib.hid hown
  have HAP := Lib.hid hap
  have HBK := Lib.hid hbk
  have HES := Lib.hid hes
  have HFF2 := Lib.hid hF
  have q1 := method_hash1
  have q2 := method_equals2
  clear hsb hmap hown hbk hes hbo hbl hff hbs hkn hp hv hrd hap hlnb hF
  generalize hH : hsh k f = H at *
  have HH := Lib.hid hH
  clear hH
  go_enter Try.func102, Try.ntmps102
  go_wp2_with fail
  have h1c := hash1_any c _ _ _ _ w HP.out.1
  rw [HH.out] at h1c
  refine h1c.mono ?_
  clear h1c
  rintro e w' ⟨rfl, rfl⟩
  go_wp2_with fail
  go_loopw [24] (fun i wr => ∃ j : Nat, j ≤ bl.length ∧ i = .int .i64 j ∧ Hid (∀ i, i < j → ∀ x, bl[i]? = some x → enIs k f x = false) ∧ Hid (Dr w wr)) (fun i _ => bl.length - (intOf i).toNat)
  case atStart => exact ⟨0, Nat.zero_le _, rfl, Lib.hid (fun i hi => absurd hi (by omega)), Lib.hid (Dr.refl _)⟩
  case round =>
    obtain ⟨j, hj, rfl, HN, HD⟩ := hrel
    have c2' : wr.cell? ⟨s, 2, none⟩ = some (.iface 104 (.pointer (some c))) := cell_bel c2 HD.out.below
    by_cases hlt : j < bl.length
    · have hbj := List.getElem?_eq_getElem hlt
      obtain ⟨b, off, u, rfl, _, hu, hc⟩ := (HRD.out.ext HD.out.below).at1 hlt
      obtain ⟨y, hy, rfl⟩ := ptrs_at hu
      rw [HBL.out, List.getElem?_map, hbj] at hy
      simp only [Option.map_some, Option.some.injEq] at hy
      have hak := HAK.out _ (List.getElem_mem hlt)
      generalize bl[j] = x at *
      obtain ⟨ea, ⟨q, k1, f1⟩, v1⟩ := x
      simp only at hy hak
      subst hy
      obtain ⟨hk1, g, hg0, _, hg⟩ := hak
      simp only at hg0 hg
      subst hg0
      have d0 : wr.cell? ⟨g, 0, none⟩ = some (.pointer (some q)) := cell_bel (cell_of hg 0) HD.out.below
      have d1 : wr.cell? ⟨g, 1, none⟩ = some (.pointer (some v1)) := cell_bel (cell_of hg 1) HD.out.below
      have HD0 := Lib.hid d0
      have HD1 := Lib.hid d1
      have HC2 := Lib.hid c2'
      have HBJ := Lib.hid hbj
      have HE := Lib.hid (equals2K_any c f1 k1 f k q p wr.drew ((hk1.stay HD.out.stay).stay (Stay.of_below (below_drew' (Below.refl _ _)))) ((HP.out.stay HD.out.stay).stay (Stay.of_below (below_drew' (Below.refl _ _)))))
      clear hbj hu hk1 hg d0 d1 c2'
      go_wp2_with fail
      refine wp_region_order (fun w' => Below wr.heap.size wr w') [0, 1, 2, 3, 4, 5, 6, 7, 8, 9, 10] [11] (by kernel_rfl) (by kernel_rfl) (below_drew' (Below.refl _ _)) ?_
      repeat
        apply TakesThen.cons rfl rfl
        · intro w' hw'
          have x0 := cell_bel HC2.out hw'
          have x1 := cell_bel HD0.out hw'
          go_simp
          with_reducible rfl
        try simp only [Act.put, List.getElem_toArray, List.getElem_cons_succ, List.getElem_cons_zero, List.setIfInBounds_toArray, List.set_cons_zero, List.set_cons_succ]
      refine TakesThen.nil ?_
      refine Chain.step rfl rfl (fun K hK => ?_)
      go_simp
      refine HE.out.mono ?_
      rintro e w' ⟨rfl, hd⟩
      have HD' := Lib.hid (HD.out.trans ((show Dr wr wr.drew from ⟨_, rfl⟩).trans hd))
      have e1 := cell_bel HD1.out ((show Dr wr wr.drew from ⟨_, rfl⟩).trans hd).below
      have hS := ((show Dr wr wr.drew from ⟨_, rfl⟩).trans hd).below
      try simp only [Act.put, List.getElem_toArray, List.getElem_cons_succ, List.getElem_cons_zero, List.setIfInBounds_toArray, List.set_cons_zero, List.set_cons_succ]
      clear hd
      by_cases heq : k1 = k ∧ f1 = f
      · have HX := Lib.hid (show enIs k f (⟨g, 0, none⟩, (q, k1, f1), v1) = true from decide_eq_true (by rw [heq.1, heq.2]))
        rw [eqB_true heq]
        clear heq
        have HF := Lib.hid (show fstE es k f = some v1 by rw [HFF.out, find_at' HN.out HBJ.out HX.out]; rfl)
        refine hK _ _ hS ?_
        clear hK hS
        try simp only [Act.put, List.getElem_toArray, List.getElem_cons_succ, List.getElem_cons_zero, List.setIfInBounds_toArray, List.set_cons_zero, List.set_cons_succ]
        refine Chain.nil ?_
        go_wp2_with fail
        go_ret2
        exact .inl ⟨_, HF.out, rfl, HD'.out⟩
      · have HX := Lib.hid (show enIs k f (⟨g, 0, none⟩, (q, k1, f1), v1) = false from decide_eq_false (fun e => heq (by cases e; exact ⟨rfl, rfl⟩)))
        rw [eqB_false heq]
        clear heq
        refine hK _ _ hS ?_
        clear hK hS
        try simp only [Act.put, List.getElem_toArray, List.getElem_cons_succ, List.getElem_cons_zero, List.setIfInBounds_toArray, List.set_cons_zero, List.set_cons_succ]
        refine Chain.nil ?_
        go_wp2_with fail
        go_roundw
        case rel => exact ⟨j + 1, by omega, by go_num, Lib.hid (fun i hi x hx => by
          rcases Nat.lt_or_ge i j with h1 | h1
          · exact HN.out i h1 x hx
          · obtain rfl : i = j := by omega
            rw [HBJ.out] at hx; cases hx; exact HX.out), HD'⟩
        case measure => simp [intOf]; omega
    · have HF := Lib.hid (show fstE es k f = none by rw [HFF.out, find_no' (fun i hi => HN.out i (by omega))]; rfl)
      have c0' : wr.cell? ⟨s, 0, none⟩ = some (.map (some m)) := cell_bel c0 HD.out.below
      have c1' : wr.cell? ⟨s, 1, none⟩ = some (.int .i64 len) := cell_bel c1 HD.out.below
      have hheap := HD.out.heap
      have HSB' := Lib.hid (show wr.heap[s]? = some (.cells #[.map (some m), .int .i64 len, .iface 104 (.pointer (some c))] 153 (0, 0)) by rw [hheap]; exact HSB.out)
      have HMAP' := Lib.hid (show MapAt wr m (T.map fun x => (x.1, x.2.1)) by obtain ⟨n, hn⟩ := HD.out; rw [hn]; exact HMAP.out)
      have HOWN' := Lib.hid (show EOwn 142 wr B T by obtain ⟨n, hn⟩ := HD.out; rw [hn]; exact HOWN.out)
      have HES' := Lib.hid (show ∀ x ∈ es, EAt 144 B wr x by obtain ⟨n, hn⟩ := HD.out; rw [hn]; exact HES.out)
      have HBO' := Lib.hid (show wr.ownsRow B 142 1 (.slice A bl.length c') bl.length (ptrs (bkt T H)) by
        obtain ⟨n, hn⟩ := HD.out; rw [hn, ← HBV.out, ← HBLB.out]; exact HBO.out)
      have hms : some m ≠ (Value.slice A bl.length c').ownBlock := own_map_ne HBO'.out HMAP'.out
      have hss : some s ≠ (Value.slice A bl.length c').ownBlock := own_cells_ne HBO'.out HSB'.out (by decide)
      have hsl' : s < wr.heap.size := (Array.getElem?_eq_some_iff.1 HSB'.out).1
      have hml' : m < wr.heap.size := by obtain ⟨_, _, h, _⟩ := HMAP'.out; exact (Array.getElem?_eq_some_iff.1 h).1
      have HSS := Lib.hid hss
      have HMS := Lib.hid hms
      have HBV' := Lib.hid HBV.out
      clear hheap hms hss
      go_wp2_with fail
      refine wp_region_sch (fun w' => wr.grownBy w' (Value.slice A bl.length c').ownBlock) (.take 0 <| .take 1 <| .take 2 <| .take 3 <| .take 4 <| .take 5 <| .take 6 <| .take 7 <| .take 8 <| .take 9 <| .take 10 <| .take 11 <| .take 12 <| .take 13 <| .step 14 <| .step 15 <| .step 16 <| .step 17 .done) (by kernel_rfl) (by kernel_rfl) (grown_of_bel (below_drew' (Below.refl _ _))) ?_
      repeat
        apply Along.take rfl rfl
        · intro w' hw'
          have x0 := (hw'.cell c0' HSS.out)
          have x1 := HLK.out w' (HMAP'.out.grown hw' HMS.out)
          rw [HBV.out] at x1
          go_simp
          with_reducible rfl
        try simp only [Act.put, List.getElem_toArray, List.getElem_cons_succ, List.getElem_cons_zero, List.setIfInBounds_toArray, List.set_cons_zero, List.set_cons_succ]
      refine Along.step rfl rfl (fun K hK => ?_)
      go_simp
      have hX1 := below_drew' (below_alloc' (Below.refl _ wr) (Obj.cells #[Value.pointer (some p), Value.pointer (some v)] 144))
      refine hK _ _ (grown_of_bel hX1) ?_
      clear hK
      try simp only [Act.put, List.getElem_toArray, List.getElem_cons_succ, List.getElem_cons_zero, List.setIfInBounds_toArray, List.set_cons_zero, List.set_cons_succ]
      refine Along.step rfl rfl (fun K hK => ?_)
      go_simp
      have hX := below_drew' (below_alloc' (below_alloc' (Below.refl _ wr) (Obj.cells #[Value.pointer (some p), Value.pointer (some v)] 144)) (Obj.cells #[Value.pointer (some ⟨wr.heap.size, 0, none⟩)] 142))
      refine hK _ _ (grown_of_bel hX) ?_
      clear hK
      try simp only [Act.put, List.getElem_toArray, List.getElem_cons_succ, List.getElem_cons_zero, List.setIfInBounds_toArray, List.set_cons_zero, List.set_cons_succ]
      refine Along.step rfl rfl (fun K hK => ?_)
      refine wp_append_any _ (.tmp 55) (.tmp 60) 141 rfl B 142 i0 _ 1 8 Try.underlying141 hi0 hz0 hz1 hz2 rfl (by omega) (.slice A bl.length c') bl.length (ptrs (bkt T H)) rfl (ownsRow_ext HBO'.out hX) _ _ 1 1 _ rfl (reads_new (by simp) rfl) (by simp [Value.oneCell']) (by simp only [maxLen]; omega) (by omega) (Nat.le_trans (by omega) hX.size) ?_
      intro v3 w3 hown3 hgr hat
      obtain ⟨A3, c3, rfl, _⟩ := own_slice hown3
      have hgr' := grown_grown (grown_of_bel hX) hgr
      have HG3 := Lib.hid hgr'
      have HM3 := HMAP'.out.grown hgr' HMS.out
      obtain ⟨w4, hrun, hm4, hg4, hsz4⟩ := run_mapUpdate_int (P := Try.prog) Try.underlying133 Try.underlying3 HM3 H (.slice A3 (bl.length + 1) c3)
      have hs3 : w3.heap[s]? = some (.cells #[.map (some m), .int .i64 len, .iface 104 (.pointer (some c))] 153 (0, 0)) := (hgr'.block s hsl' HSS.out).trans HSB'.out
      have hsm : s ≠ m := by
        intro e
        obtain ⟨es, cl, h1, _⟩ := HM3
        rw [← e, hs3] at h1; cases h1
      have hs4 : w4.heap[s]? = some (.cells #[.map (some m), .int .i64 len, .iface 104 (.pointer (some c))] 153 (0, 0)) := (hg4.block s (Array.getElem?_eq_some_iff.1 hs3).1 (fun e => hsm (Option.some.inj e))).trans hs3
      have d1 : w4.cell? ⟨s, 1, none⟩ = some (.int .i64 len) := cell_of hs4 1
      have d2 : w4.frozen? ⟨s, 1, none⟩ = false := by simp [World.frozen?, hs4]
      have hlim : len ≤ 1000000000 := by omega
      refine hK _ _ hgr' ?_
      clear hK
      try simp only [Act.put, List.getElem_toArray, List.getElem_cons_succ, List.getElem_cons_zero, List.setIfInBounds_toArray, List.set_cons_zero, List.set_cons_succ]
      have HFIN := Lib.hid (jf_done (F := F) (f := f) (k := k) (p := p) (v := v) (a := wr.heap.size) (by decide : (142 : TypeId) ≠ 153) (by decide : (144 : TypeId) ≠ 153) (by decide) HH.out HD.out hBs hBm hlen0 hlen1 HOWN'.out HAP.out HBK.out HES'.out (by rw [HD.out.heap]; exact HFF2.out) (by rw [HBV.out]; exact HBO'.out) HBLB.out hsl' hX ((heap_old' (by simp)).trans (heap_new' rfl)) (Nat.le_refl _) (by rw [HBV.out]; exact hgr) (by rw [HBV.out]; exact hat.imp id (fun e => ⟨_, e, by simp; omega⟩)) hown3 hm4 hg4 hs4 HM3 hsm)
      clear hgr hat hown3 hm4 hg4 hs4 hs3 HM3 hgr'
      refine Along.last (by kernel_rfl) rfl rfl rfl (fun K hK => ?_)
      go_simp
      refine hK _ _ ?_
      clear hK
      refine Along.done ?_
      go_wp2_with fail
      go_ret2
      obtain ⟨F', h1, h2, h3, h4⟩ := HFIN.out
      exact .inr ⟨HF.out, rfl, _, F', h1, h2, h3, h4⟩
end Go.Proofs.Ytcbabfndfikejaa
