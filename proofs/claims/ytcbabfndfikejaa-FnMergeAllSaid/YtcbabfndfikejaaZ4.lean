/- In one: The walk of Put on a store of choices. Condition: the choices lie in memory and are well made. Stores keyed by choices whose buckets hold pairs (JMap): how they lie in memory, and what a pair more keeps. Condition: the choices lie in memory. Stores of pairs (JMap) with the blocks they lie in: several of them lie side by side. Condition: the choices lie in memory. The equality of what a cache of merges keeps as keys: choices that have tops, and the array of none. Condition: the keys lie in memory. -/
import Derived.Test.YtcbabfndfikejaaZ2
import Derived.Test.YtcbabfndfikejaaZ3
namespace Go.Proofs.Ytcbabfndfikejaa
open Go.RowKit
set_option linter.unusedSimpArgs false
def bput : List Bk → Int → Value → List Addr → List Bk
  | [], h, v, l => [(h, v, l)]
  | (x, u, l0) :: t, h, v, l => if h = x then (x, v, l) :: t else (x, u, l0) :: bput t h v l
theorem bput_map : ∀ (T : List Bk) (h : Int) (v : Value) (l : List Addr), (bput T h v l).map (fun x => (x.1, x.2.1)) = Prs.put (T.map fun x => (x.1, x.2.1)) h v
  | [], _, _, _ => rfl
  | (x, u, l0) :: t, h, v, l => by
    unfold bput
    simp only [List.map_cons, Prs.put]
    split
    · rfl
    · simp only [List.map_cons, bput_map t h v l]
theorem bput_bkt : ∀ (T : List Bk) (h : Int) (v : Value) (l : List Addr) (g : Int), bkt (bput T h v l) g = if g = h then l else bkt T g
  | [], h, v, l, g => by simp [bput, bkt]
  | (x, u, l0) :: t, h, v, l, g => by
    unfold bput
    by_cases hx : h = x
    · subst hx
      rw [if_pos rfl]
      unfold bkt
      by_cases hg : g = h
      · simp [hg]
      · simp [hg]
    · rw [if_neg hx]
      unfold bkt
      by_cases hg : g = x
      · subst hg
        rw [if_pos rfl, if_neg (fun e => hx e.symm), if_pos rfl]
      · rw [if_neg hg, bput_bkt t h v l g, if_neg hg]
theorem bval_mem : ∀ (T : List Bk) (h : Int), bval T h = .slice none 0 0 ∨ ∃ x ∈ T, bval T h = x.2.1
  | [], _ => .inl rfl
  | (x, u, l0) :: t, h => by
    unfold bval
    split
    · exact .inr ⟨_, List.mem_cons_self .., rfl⟩
    · rcases bval_mem t h with h1 | ⟨y, h1, h2⟩
      · exact .inl h1
      · exact .inr ⟨y, List.mem_cons_of_mem _ h1, h2⟩
def BOwn (w : World) (B : Nat) (T : List Bk) : Prop := ∀ x ∈ T, w.ownsRow B 72 1 x.2.1 x.2.2.length (ptrs x.2.2) ∧ 0 < x.2.2.length
def BApart (T : List Bk) : Prop := T.Pairwise (fun x y => x.2.1.ownBlock ≠ y.2.1.ownBlock)
theorem own_pos {w : World} {B n : Nat} {e : TypeId} {v : Value} {xs : List Value} (h : w.ownsRow B e 1 v n xs) (hn : 0 < n) : v.ownBlock ≠ none := by
  obtain ⟨g, cap, rfl, _⟩ := h.form hn
  simp [Value.ownBlock]
/-- a pointer more in a bucket -/
theorem bput_own {w w4 : World} {B : Nat} {h : Int} {v3 : Value} {l3 : List Addr} (h3 : w4.ownsRow B 72 1 v3 l3.length (ptrs l3)) (hl3 : 0 < l3.length) : ∀ {T : List Bk}, BOwn w B T → BApart T →
    (∀ (v : Value) n xs, w.ownsRow B 72 1 v n xs → 0 < n → v.ownBlock ≠ (bval T h).ownBlock → w4.ownsRow B 72 1 v n xs) →
    (v3.ownBlock = (bval T h).ownBlock ∨ ∃ z, v3.ownBlock = some z ∧ w.heap.size ≤ z) → BOwn w4 B (bput T h v3 l3) ∧ BApart (bput T h v3 l3)
  | [], _, _, _, _ => by
    refine ⟨fun x hx => ?_, ?_⟩
    · simp [bput] at hx; subst hx; exact ⟨h3, hl3⟩
    · exact List.pairwise_singleton ..
  | (x, u, l0) :: t, ho, ha, hk, hat => by
    have ho1 := ho _ (List.mem_cons_self ..)
    have ho2 : BOwn w B t := fun y hy => ho y (List.mem_cons_of_mem _ hy)
    obtain ⟨ha1, ha2⟩ := List.pairwise_cons.1 ha
    have hne3 := own_pos h3 hl3
    have old : ∀ z, w.heap.size ≤ z → ∀ y ∈ (x, u, l0) :: t, y.2.1.ownBlock ≠ some z := by
      intro z hz y hy e
      have := ((ho y hy).1.lt _ e).2
      omega
    unfold bput
    by_cases hx : h = x
    · rw [if_pos hx]
      have hb : bval ((x, u, l0) :: t) h = u := by unfold bval; rw [if_pos hx]
      rw [hb] at hk hat
      refine ⟨fun y hy => ?_, ?_⟩
      · rcases List.mem_cons.1 hy with rfl | hy
        · exact ⟨h3, hl3⟩
        · have := ho2 y hy
          exact ⟨hk _ _ _ this.1 this.2 (fun e => ha1 y hy e.symm), this.2⟩
      · refine List.pairwise_cons.2 ⟨fun y hy => ?_, ha2⟩
        simp only
        rcases hat with e | ⟨z, e, hz⟩
        · rw [e]; exact ha1 y hy
        · rw [e]; exact fun e' => old z hz y (List.mem_cons_of_mem _ hy) e'.symm
    · rw [if_neg hx]
      have hb : bval ((x, u, l0) :: t) h = bval t h := by simp [bval, hx]
      rw [hb] at hk hat
      have ih := bput_own h3 hl3 ho2 ha2 hk hat
      have hu : u.ownBlock ≠ (bval t h).ownBlock := by
        rcases bval_mem t h with e | ⟨y, hy, e⟩
        · rw [e]; exact own_pos ho1.1 ho1.2
        · rw [e]; exact ha1 y hy
      refine ⟨fun y hy => ?_, ?_⟩
      · rcases List.mem_cons.1 hy with rfl | hy
        · exact ⟨hk _ _ _ ho1.1 ho1.2 hu, ho1.2⟩
        · exact ih.1 y hy
      · refine List.pairwise_cons.2 ⟨fun y hy => ?_, ih.2⟩
        simp only
        have mem : ∀ {T : List Bk}, y ∈ bput T h v3 l3 → y ∈ T ∨ y.2.1 = v3 := by
          intro T
          induction T with
          | nil => intro hy; simp [bput] at hy; subst hy; exact .inr rfl
          | cons z T ihT =>
            obtain ⟨z1, z2, z3⟩ := z
            intro hy
            unfold bput at hy
            split at hy
            · rcases List.mem_cons.1 hy with rfl | hy
              · exact .inr rfl
              · exact .inl (List.mem_cons_of_mem _ hy)
            · rcases List.mem_cons.1 hy with rfl | hy
              · exact .inl (List.mem_cons_self ..)
              · rcases ihT hy with h1 | h1
                · exact .inl (List.mem_cons_of_mem _ h1)
                · exact .inr h1
        rcases mem hy with hy | hy
        · exact ha1 y hy
        · rw [hy]
          rcases hat with e | ⟨z, e, hz⟩
          · rw [e]; exact hu
          · rw [e]; exact old z hz _ (List.mem_cons_self ..)
theorem JS.dr {B : Nat} {w w' : World} {s : Nat} {kn : List Kn} (h : JS B w s kn) (hd : Dr w w') : JS B w' s kn := by obtain ⟨n, rfl⟩ := hd; exact h
theorem MapAt.grown {w w' : World} {m : Nat} {D : Prs} {row : Option Nat} (h : MapAt w m D) (hg : w.grownBy w' row) (hne : some m ≠ row) : MapAt w' m D := by
  obtain ⟨es, c, h1, h2⟩ := h
  exact ⟨es, c, (hg.block m (Array.getElem?_eq_some_iff.1 h1).1 hne).trans h1, h2⟩
/-- a map's block is no row's -/
theorem own_map_ne {w : World} {B n : Nat} {e : TypeId} {v : Value} {xs : List Value} {m : Nat} {D : Prs} (h : w.ownsRow B e 1 v n xs) (hm : MapAt w m D) : some m ≠ v.ownBlock := by
  obtain ⟨es, c, h1, _⟩ := hm
  rcases h.2 with ⟨rfl, _⟩ | ⟨g, cap, cur, rfl, _, hh, _⟩
  · simp [Value.ownBlock]
  · intro e
    have : m = g := by simpa [Value.ownBlock] using e
    subst this
    rw [h1] at hh; cases hh
theorem own_cells_ne {w : World} {B n s : Nat} {e t : TypeId} {v : Value} {xs : List Value} {cs : Array Value} (h : w.ownsRow B e 1 v n xs) (hm : w.heap[s]? = some (.cells cs t (0, 0))) (hne : e ≠ t) : some s ≠ v.ownBlock := by
  rcases h.2 with ⟨rfl, _⟩ | ⟨g, cap, cur, rfl, _, hh, _⟩
  · simp [Value.ownBlock]
  · intro e
    have : s = g := by simpa [Value.ownBlock] using e
    subst this
    rw [hm] at hh; cases hh; exact hne rfl
def knAdd (kn : List Kn) (p : Addr) (k : Nat) (f : Tops) : List Kn := if (fstK kn k f).isSome then kn else kn ++ [(p, k, f)]
def PutPost (B : Nat) (s : Nat) (kn : List Kn) (w : World) (e : Ending) (w' : World) : Prop := ∃ r ok, e = .returned (.tuple #[.pointer (some r), .bool ok]) ∧ JS B w' s kn ∧ Below B w w'
theorem store_done {B : Nat} {w wr w3 w4 : World} {s m n : Nat} {c : Addr} {len : Int} {T : List Bk} {kn : List Kn} {p : Addr} {k : Nat} {f : Tops} {H : Int} {A3 : Option Addr} {c3 : Nat}
    (hH : hsh k f = H) (hd : Dr w wr) (hBs : B ≤ s) (hBm : B ≤ m) (h0 : 0 ≤ len) (h1 : len ≤ kn.length) (hown : BOwn wr B T) (hap : BApart T) (hbk : ∀ h, bkt T h = (kn.filter (hashIs h)).map (·.1))
    (hbo : wr.ownsRow B 72 1 (bval T H) n (ptrs (bkt T H))) (hlen : (bkt T H).length = n) (hsl : s < wr.heap.size)
    (hgr : wr.grownBy w3 (bval T H).ownBlock) (hat : (Value.slice A3 (n + 1) c3).ownBlock = (bval T H).ownBlock ∨ ∃ z, (Value.slice A3 (n + 1) c3).ownBlock = some z ∧ wr.heap.size ≤ z)
    (hown3 : w3.ownsRow B 72 1 (.slice A3 (n + 1) c3) (n + 1) (ptrs (bkt T H) ++ [.pointer (some p)])) (hm4 : MapAt w4 m (Prs.put (T.map fun x => (x.1, x.2.1)) H (.slice A3 (n + 1) c3))) (hg4 : w3.grownBy w4 (some m))
    (hs4 : w4.heap[s]? = some (.cells #[.map (some m), .int .i64 len, .iface 104 (.pointer (some c))] 131 (0, 0))) (hm3 : MapAt w3 m (T.map fun x => (x.1, x.2.1))) (hsm : s ≠ m) :
    JS B (w4.setCell ⟨s, 1, none⟩ (.int .i64 (len + 1))) s (kn ++ [(p, k, f)]) ∧ Below B w (w4.setCell ⟨s, 1, none⟩ (.int .i64 (len + 1))) := by
  have hset : w4.grownBy (w4.setCell ⟨s, 1, none⟩ (.int .i64 (len + 1))) (some s) := ⟨rfl, rfl, rfl, by simp [World.setCell], fun j _ hj => Below.heap_setCell _ _ _ _ (fun e => hj (by rw [e]))⟩
  have keep4 : ∀ (v : Value) n xs, w3.ownsRow B 72 1 v n xs → (w4.setCell ⟨s, 1, none⟩ (.int .i64 (len + 1))).ownsRow B 72 1 v n xs := by
    intro v n xs h
    have a1 := h.kept hg4 (.inr (fun e => own_map_ne h hm3 e.symm))
    exact a1.kept hset (.inr (fun e => own_cells_ne a1 hs4 (by decide) e.symm))
  have h3' : (w4.setCell ⟨s, 1, none⟩ (.int .i64 (len + 1))).ownsRow B 72 1 (.slice A3 (n + 1) c3) (bkt T H ++ [p]).length (ptrs (bkt T H ++ [p])) := by
    have := keep4 _ _ _ hown3
    have e1 : (bkt T H ++ [p]).length = n + 1 := by simp [hlen]
    have e2 : ptrs (bkt T H ++ [p]) = ptrs (bkt T H) ++ [.pointer (some p)] := by simp [ptrs]
    rw [e1, e2]; exact this
  have key := bput_own (w := wr) (h := H) h3' (by simp) hown hap (fun v n xs h hn hne => keep4 _ _ _ (h.kept hgr (.inr hne))) hat
  have hB0 : B ≤ wr.heap.size := by omega
  refine ⟨⟨m, c, len + 1, bput T H (.slice A3 (n + 1) c3) (bkt T H ++ [p]), ?_, hBs, hBm, by omega, by simp; omega, ?_, key.1, key.2, ?_⟩, ?_⟩
  · rw [heap_setCell_same w4 s 1 _ _ _ hs4]; rfl
  · rw [bput_map]
    exact hm4.grown hset (fun e => hsm (Option.some.inj e).symm)
  · intro h
    rw [bput_bkt, List.filter_append, List.map_append]
    by_cases hh : h = H
    · rw [if_pos hh, hbk, hh]
      congr 1
      have : hashIs H (p, k, f) = true := decide_eq_true hH
      simp [List.filter, this]
    · rw [if_neg hh, hbk]
      have : hashIs h (p, k, f) = false := decide_eq_false (fun e => hh (by rw [← e, hH]))
      simp [List.filter, this]
  · have hw : Below B w wr := hd.below.mono (by rw [← hd.heap]; exact hB0)
    have b3 : Below B w w3 := hw.grown hgr hB0 (fun x hx => (hbo.lt x hx).1)
    have b4 : Below B w w4 := b3.grown hg4 (Nat.le_trans hB0 hgr.size) (fun x hx => by cases hx; exact hBm)
    exact b4.setCell hBs _
theorem pc72_info : (Try.prog.info? 72).map (fun i => (i.zero, i.size, i.bytes)) = some (some (.pointer none), 1, 8) := by kernel_rfl
set_option maxRecDepth 20000 in
set_option maxHeartbeats 4000000 in
theorem storePut_any (B : Nat) (w : World) (s : Nat) (kn : List Kn) (p : Addr) (k : Nat) (f : Tops) (hs : JS B w s kn) (hkn : AllK w kn) (hm : kn.length ≤ 1000) (hp : Rep w NoX p k f) (hw : Wf k f) :
    Calls Try.prog 73 #[.pointer (some ⟨s, 0, none⟩), .pointer (some p)] w (PutPost B s (knAdd kn p k f) w) := by
  obtain ⟨i0, hi0, hz0, hz1, hz2⟩ := info_parts pc72_info
  have HJS := Lib.hid hs
  obtain ⟨m, c, len, T, hsb, hBs, hBm, hlen0, hlen1, hmap, hown, hap, hbk⟩ := hs
  have c0 : w.cell? ⟨s, 0, none⟩ = some (.map (some m)) := cell_of hsb 0
  have c1 : w.cell? ⟨s, 1, none⟩ = some (.int .i64 len) := cell_of hsb 1
  have c2 : w.cell? ⟨s, 2, none⟩ = some (.iface 104 (.pointer (some c))) := cell_of hsb 2
  have hsl : s < w.heap.size := (Array.getElem?_eq_some_iff.1 hsb).1
  have HLK := Lib.hid (show ∀ w', MapAt w' m (T.map fun x => (x.1, x.2.1)) → (Instr.lookup 129 (.map (some m)) (.int .i64 (hsh k f)) false).run Try.prog w' = .ok (bval T (hsh k f)) w' from fun w' hm' => by
    have h1 := run_lookup_int (P := Try.prog) Try.underlying129 Try.underlying3 hm' (hsh k f) _ (zero73 w')
    rwa [bval_look] at h1)
  have hbo := bval_own (hsh k f) hown
  have hbl := hbk (hsh k f)
  have hfl : (kn.filter (hashIs (hsh k f))).length ≤ 1000 := Nat.le_trans (List.length_filter_le _ _) hm
  have hff := find_filter kn k f
  generalize hbs : kn.filter (hashIs (hsh k f)) = bl at *
  have HAK := Lib.hid (show AllK w bl from fun x hx => hkn x (by rw [← hbs] at hx; exact (List.mem_filter.1 hx).1))
  have hlnb : (bkt T (hsh k f)).length = bl.length := by rw [hbl]; simp
  obtain ⟨A, c', hv, hrd⟩ := own_slice hbo
  rw [hlnb] at hv hrd
  have hlk := HLK.out w hmap
  rw [hv] at hlk
  have HBV := Lib.hid hv
  have HBO := Lib.hid hbo
  have HBLB := Lib.hid hlnb
  have HBL := Lib.hid hbl
  have HRD := Lib.hid hrd
  have HP := Lib.hid hp
  have HW := Lib.hid hw
  have HFF := Lib.hid (show fstK kn k f = (bl.find? (treeIs k f)).map (·.1) by unfold fstK; rw [hff])
  have HSB := Lib.hid hsb
  have HMAP := Lib.hid hmap
  have HOWN := Lib.hid hown
  have HAP := Lib.hid hap
  have HBK := Lib.hid hbk
  have q1 := method_hash1
  have q2 := method_equals2
  clear hsb hmap hown hbk hbo hbl hff hbs hkn hp hw hv hrd hap hlnb
  generalize hH : hsh k f = H at *
  have HH := Lib.hid hH
  clear hH
  go_enter Try.func73, Try.ntmps73
  go_wp2_with fail
  have h1c := hash1_any c _ _ _ _ w HP.out
  rw [HH.out] at h1c
  refine h1c.mono ?_
  clear h1c
  rintro e w' ⟨rfl, rfl⟩
  go_wp2_with fail
  go_loopw [22] (fun i wr => ∃ j : Nat, j ≤ bl.length ∧ i = .int .i64 j ∧ Hid (∀ i, i < j → ∀ x, bl[i]? = some x → treeIs k f x = false) ∧ Hid (Dr w wr)) (fun i _ => bl.length - (intOf i).toNat)
  case atStart => exact ⟨0, Nat.zero_le _, rfl, Lib.hid (fun i hi => absurd hi (by omega)), Lib.hid (Dr.refl _)⟩
  case round =>
    obtain ⟨j, hj, rfl, HN, HD⟩ := hrel
    have c2' : wr.cell? ⟨s, 2, none⟩ = some (.iface 104 (.pointer (some c))) := cell_bel c2 HD.out.below
    by_cases hlt : j < bl.length
    · have hbj := List.getElem?_eq_getElem hlt
      obtain ⟨b, off, u, rfl, _, hu, hc⟩ := (HRD.out.ext HD.out.below).at1 hlt
      obtain ⟨y, hy, rfl⟩ := ptrs_at hu
      rw [HBL.out, List.getElem?_map, hbj] at hy
      simp only [Option.map_some, Option.some.injEq] at hy
      have hak := HAK.out _ (List.getElem_mem hlt)
      generalize bl[j] = x at *
      obtain ⟨q, k1, f1⟩ := x
      simp only at hy hak
      subst hy
      have HBJ := Lib.hid hbj
      have HE := Lib.hid (equals2_any c f k f1 k1 p q wr (HP.out.stay HD.out.stay) (hak.1.stay HD.out.stay) HW.out hak.2)
      clear hbj hu hak
      go_wp2_with fail
      refine HE.out.mono ?_
      rintro e w' ⟨rfl, hd⟩
      have HD' := Lib.hid (HD.out.trans hd)
      clear hd
      by_cases heq : k = k1 ∧ f = f1
      · have HX := Lib.hid (show treeIs k f (q, k1, f1) = true from decide_eq_true (by rw [heq.1, heq.2]))
        rw [eqB_true heq]
        clear heq
        have HF := Lib.hid (show fstK kn k f = some q by rw [HFF.out, find_at HN.out HBJ.out HX.out]; rfl)
        go_wp2_with fail
        go_ret2
        have hB : B ≤ w.heap.size := by omega
        exact ⟨_, _, rfl, by unfold knAdd; rw [HF.out]; exact HJS.out.dr HD'.out, HD'.out.below.mono hB⟩
      · have HX := Lib.hid (show treeIs k f (q, k1, f1) = false from decide_eq_false (fun e => heq (by cases e; exact ⟨rfl, rfl⟩)))
        rw [eqB_false heq]
        clear heq
        go_wp2_with fail
        go_roundw
        case rel => exact ⟨j + 1, by omega, by go_num, Lib.hid (fun i hi x hx => by
          rcases Nat.lt_or_ge i j with h1 | h1
          · exact HN.out i h1 x hx
          · obtain rfl : i = j := by omega
            rw [HBJ.out] at hx; cases hx; exact HX.out), HD'⟩
        case measure => simp [intOf]; omega
    · have HF := Lib.hid (show fstK kn k f = none by rw [HFF.out, find_no (fun i hi => HN.out i (by omega))]; rfl)
      have c0' : wr.cell? ⟨s, 0, none⟩ = some (.map (some m)) := cell_bel c0 HD.out.below
      have c1' : wr.cell? ⟨s, 1, none⟩ = some (.int .i64 len) := cell_bel c1 HD.out.below
      have hheap := HD.out.heap
      have HSB' := Lib.hid (show wr.heap[s]? = some (.cells #[.map (some m), .int .i64 len, .iface 104 (.pointer (some c))] 131 (0, 0)) by rw [hheap]; exact HSB.out)
      have HMAP' := Lib.hid (show MapAt wr m (T.map fun x => (x.1, x.2.1)) by obtain ⟨n, hn⟩ := HD.out; rw [hn]; exact HMAP.out)
      have HOWN' := Lib.hid (show BOwn wr B T by obtain ⟨n, hn⟩ := HD.out; rw [hn]; exact HOWN.out)
      have HBO' := Lib.hid (show wr.ownsRow B 72 1 (.slice A bl.length c') bl.length (ptrs (bkt T H)) by
        obtain ⟨n, hn⟩ := HD.out; rw [hn, ← HBV.out, ← HBLB.out]; exact HBO.out)
      have hms : some m ≠ (Value.slice A bl.length c').ownBlock := own_map_ne HBO'.out HMAP'.out
      have hss : some s ≠ (Value.slice A bl.length c').ownBlock := own_cells_ne HBO'.out HSB'.out (by decide)
      have hsl' : s < wr.heap.size := (Array.getElem?_eq_some_iff.1 HSB'.out).1
      have HSS := Lib.hid hss
      have HMS := Lib.hid hms
      have HBV' := Lib.hid HBV.out
      clear hheap hms hss
      go_wp2_with fail
      refine wp_region_sch (fun w' => wr.grownBy w' (Value.slice A bl.length c').ownBlock) (.take 0 <| .take 1 <| .take 2 <| .take 3 <| .take 4 <| .take 5 <| .take 6 <| .take 7 <| .take 8 <| .take 9 <| .take 10 <| .take 11 <| .step 12 <| .step 13 <| .step 14 .done) (by kernel_rfl) (by kernel_rfl) (grown_of_bel (below_drew' (Below.refl _ _))) ?_
      repeat
        apply Along.take rfl rfl
        · intro w' hw'
          have x0 := (hw'.cell c0' HSS.out)
          have x1 := HLK.out w' (HMAP'.out.grown hw' HMS.out)
          rw [HBV.out] at x1
          go_simp
          with_reducible rfl
        try simp only [Act.put, List.getElem_toArray, List.getElem_cons_succ, List.getElem_cons_zero, List.setIfInBounds_toArray, List.set_cons_zero, List.set_cons_succ]
      refine Along.step rfl rfl (fun K hK => ?_)
      go_simp
      have hX := below_alloc' (below_drew' (Below.refl _ wr)) (Obj.cells #[Value.pointer (some p)] 72)
      refine hK _ _ (grown_of_bel hX) ?_
      clear hK
      try simp only [Act.put, List.getElem_toArray, List.getElem_cons_succ, List.getElem_cons_zero, List.setIfInBounds_toArray, List.set_cons_zero, List.set_cons_succ]
      refine Along.step rfl rfl (fun K hK => ?_)
      refine wp_append_any _ (.tmp 45) (.tmp 47) 73 rfl B 72 i0 _ 1 8 Try.underlying73 hi0 hz0 hz1 hz2 rfl (by omega) (.slice A bl.length c') bl.length (ptrs (bkt T H)) rfl (ownsRow_ext HBO'.out hX) _ _ 1 1 _ rfl (reads_new (by simp) rfl) (by simp [Value.oneCell']) (by simp only [maxLen]; omega) (by omega) (Nat.le_trans (by omega) hX.size) ?_
      intro v3 w3 hown3 hgr hat
      obtain ⟨A3, c3, rfl, _⟩ := own_slice hown3
      have hgr' := grown_grown (grown_of_bel hX) hgr
      have HG3 := Lib.hid hgr'
      have HM3 := HMAP'.out.grown hgr' HMS.out
      obtain ⟨w4, hrun, hm4, hg4, hsz4⟩ := run_mapUpdate_int (P := Try.prog) Try.underlying129 Try.underlying3 HM3 H (.slice A3 (bl.length + 1) c3)
      have hs3 : w3.heap[s]? = some (.cells #[.map (some m), .int .i64 len, .iface 104 (.pointer (some c))] 131 (0, 0)) := (hgr'.block s hsl' HSS.out).trans HSB'.out
      have hsm : s ≠ m := by
        intro e
        obtain ⟨es, cl, h1, _⟩ := HM3
        rw [← e, hs3] at h1; cases h1
      have hs4 : w4.heap[s]? = some (.cells #[.map (some m), .int .i64 len, .iface 104 (.pointer (some c))] 131 (0, 0)) := (hg4.block s (Array.getElem?_eq_some_iff.1 hs3).1 (fun e => hsm (Option.some.inj e))).trans hs3
      have d1 : w4.cell? ⟨s, 1, none⟩ = some (.int .i64 len) := cell_of hs4 1
      have d2 : w4.frozen? ⟨s, 1, none⟩ = false := by simp [World.frozen?, hs4]
      have hlim : len ≤ 1000 := by omega
      refine hK _ _ hgr' ?_
      clear hK
      try simp only [Act.put, List.getElem_toArray, List.getElem_cons_succ, List.getElem_cons_zero, List.setIfInBounds_toArray, List.set_cons_zero, List.set_cons_succ]
      have HFIN := Lib.hid (store_done (f := f) (k := k) (p := p) HH.out HD.out hBs hBm hlen0 hlen1 HOWN'.out HAP.out HBK.out (by rw [HBV.out]; exact HBO'.out) HBLB.out hsl' (by rw [HBV.out]; exact hgr') (by rw [HBV.out]; exact hat.imp id (fun e => ⟨_, e, by simp⟩)) hown3 hm4 hg4 hs4 HM3 hsm)
      clear hgr hat hown3 hm4 hg4 hs4 hs3 HM3 hgr'
      refine Along.last (by kernel_rfl) rfl rfl rfl (fun K hK => ?_)
      go_simp
      refine hK _ _ ?_
      clear hK
      refine Along.done ?_
      go_wp2_with fail
      go_ret2
      unfold knAdd
      rw [HF.out]
      exact ⟨_, _, rfl, HFIN.out.1, HFIN.out.2⟩
end Go.Proofs.Ytcbabfndfikejaa
namespace Go.Proofs.Ytcbabfndfikejaa
open Go.RowKit
set_option linter.unusedSimpArgs false
/-- a pair: where it lies, its key (a known choice), where its value points -/
abbrev Ent := Addr × Kn × Addr
def enHash (h : Int) (x : Ent) : Bool := hashIs h x.2.1
def enIs (k : Nat) (f : Tops) (x : Ent) : Bool := treeIs k f x.2.1
def fstE (es : List Ent) (k : Nat) (f : Tops) : Option Addr := (es.find? (enIs k f)).map (·.2.2)
theorem findE_filter (es : List Ent) (k : Nat) (f : Tops) : (es.filter (enHash (hsh k f))).find? (enIs k f) = es.find? (enIs k f) := by
  induction es with
  | nil => rfl
  | cons a t ih =>
    by_cases h : enIs k f a = true
    · have h2 : enHash (hsh k f) a = true := by
        unfold enIs treeIs at h; unfold enHash hashIs
        have := of_decide_eq_true h
        rw [this]; exact decide_eq_true rfl
      rw [List.filter_cons_of_pos h2, List.find?_cons_of_pos h, List.find?_cons_of_pos h]
    · rw [List.find?_cons_of_neg h]
      by_cases h2 : enHash (hsh k f) a = true
      · rw [List.filter_cons_of_pos h2, List.find?_cons_of_neg h, ih]
      · rw [List.filter_cons_of_neg h2, ih]
theorem find_at' {α : Type} {l : List α} {P : α → Bool} {j : Nat} {y : α} (h : ∀ i, i < j → ∀ x, l[i]? = some x → P x = false) (hj : l[j]? = some y) (hy : P y = true) : l.find? P = some y := by
  induction l generalizing j with
  | nil => simp at hj
  | cons a t ih =>
    cases j with
    | zero => simp at hj; subst hj; exact List.find?_cons_of_pos hy
    | succ j =>
      have h0 := h 0 (by omega) a rfl
      rw [List.find?_cons_of_neg (by rw [h0]; decide)]
      exact ih (j := j) (fun i hi x hx => h (i + 1) (by omega) x (by simpa using hx)) (by simpa using hj)
theorem find_no' {α : Type} {l : List α} {P : α → Bool} (h : ∀ i, i < l.length → ∀ x, l[i]? = some x → P x = false) : l.find? P = none := by
  rw [List.find?_eq_none]
  intro x hx
  obtain ⟨i, hi⟩ := List.getElem?_of_mem hx
  rw [h i (List.getElem?_eq_some_iff.1 hi).1 x hi]; decide
theorem fstE_some {es : List Ent} {k : Nat} {f : Tops} {v : Addr} (h : fstE es k f = some v) : ∃ e p, (e, (p, k, f), v) ∈ es := by
  unfold fstE at h
  cases hf : es.find? (enIs k f) with
  | none => rw [hf] at h; cases h
  | some x =>
    rw [hf] at h
    have h1 := List.mem_of_find?_eq_some hf
    have h2 := List.find?_some hf
    obtain ⟨e, ⟨p, k', f'⟩, v'⟩ := x
    have h3 : (k', f') = (k, f) := of_decide_eq_true h2
    cases h3
    simp at h
    subst h
    exact ⟨e, p, h1⟩
/-! ### the buckets' rows, of any type -/
def EOwn (el : TypeId) (w : World) (B : Nat) (T : List Bk) : Prop := ∀ x ∈ T, w.ownsRow B el 1 x.2.1 x.2.2.length (ptrs x.2.2) ∧ 0 < x.2.2.length
theorem bval_ownE {el : TypeId} {w : World} {B : Nat} : ∀ {T : List Bk} (h : Int), EOwn el w B T → w.ownsRow B el 1 (bval T h) (bkt T h).length (ptrs (bkt T h))
  | [], _, _ => World.ownsRow_nil _ _ _ _
  | (x, v, l) :: t, h, ha => by
    unfold bval bkt
    split
    · exact (ha _ (List.mem_cons_self ..)).1
    · exact bval_ownE h (fun x hx => ha x (List.mem_cons_of_mem _ hx))
theorem bput_ownE {el : TypeId} {w w4 : World} {B : Nat} {h : Int} {v3 : Value} {l3 : List Addr} (h3 : w4.ownsRow B el 1 v3 l3.length (ptrs l3)) (hl3 : 0 < l3.length) : ∀ {T : List Bk}, EOwn el w B T → BApart T →
    (∀ (v : Value) n xs, w.ownsRow B el 1 v n xs → 0 < n → v.ownBlock ≠ (bval T h).ownBlock → w4.ownsRow B el 1 v n xs) →
    (v3.ownBlock = (bval T h).ownBlock ∨ ∃ z, v3.ownBlock = some z ∧ w.heap.size ≤ z) → EOwn el w4 B (bput T h v3 l3) ∧ BApart (bput T h v3 l3)
  | [], _, _, _, _ => by
    refine ⟨fun x hx => ?_, ?_⟩
    · simp [bput] at hx; subst hx; exact ⟨h3, hl3⟩
    · exact List.pairwise_singleton ..
  | (x, u, l0) :: t, ho, ha, hk, hat => by
    have ho1 := ho _ (List.mem_cons_self ..)
    have ho2 : EOwn el w B t := fun y hy => ho y (List.mem_cons_of_mem _ hy)
    obtain ⟨ha1, ha2⟩ := List.pairwise_cons.1 ha
    have hne3 := own_pos h3 hl3
    have old : ∀ z, w.heap.size ≤ z → ∀ y ∈ (x, u, l0) :: t, y.2.1.ownBlock ≠ some z := by
      intro z hz y hy e
      have := ((ho y hy).1.lt _ e).2
      omega
    unfold bput
    by_cases hx : h = x
    · rw [if_pos hx]
      have hb : bval ((x, u, l0) :: t) h = u := by unfold bval; rw [if_pos hx]
      rw [hb] at hk hat
      refine ⟨fun y hy => ?_, ?_⟩
      · rcases List.mem_cons.1 hy with rfl | hy
        · exact ⟨h3, hl3⟩
        · have := ho2 y hy
          exact ⟨hk _ _ _ this.1 this.2 (fun e => ha1 y hy e.symm), this.2⟩
      · refine List.pairwise_cons.2 ⟨fun y hy => ?_, ha2⟩
        simp only
        rcases hat with e | ⟨z, e, hz⟩
        · rw [e]; exact ha1 y hy
        · rw [e]; exact fun e' => old z hz y (List.mem_cons_of_mem _ hy) e'.symm
    · rw [if_neg hx]
      have hb : bval ((x, u, l0) :: t) h = bval t h := by simp [bval, hx]
      rw [hb] at hk hat
      have ih := bput_ownE h3 hl3 ho2 ha2 hk hat
      have hu : u.ownBlock ≠ (bval t h).ownBlock := by
        rcases bval_mem t h with e | ⟨y, hy, e⟩
        · rw [e]; exact own_pos ho1.1 ho1.2
        · rw [e]; exact ha1 y hy
      refine ⟨fun y hy => ?_, ?_⟩
      · rcases List.mem_cons.1 hy with rfl | hy
        · exact ⟨hk _ _ _ ho1.1 ho1.2 hu, ho1.2⟩
        · exact ih.1 y hy
      · refine List.pairwise_cons.2 ⟨fun y hy => ?_, ih.2⟩
        simp only
        have mem : ∀ {T : List Bk}, y ∈ bput T h v3 l3 → y ∈ T ∨ y.2.1 = v3 := by
          intro T
          induction T with
          | nil => intro hy; simp [bput] at hy; subst hy; exact .inr rfl
          | cons z T ihT =>
            obtain ⟨z1, z2, z3⟩ := z
            intro hy
            unfold bput at hy
            split at hy
            · rcases List.mem_cons.1 hy with rfl | hy
              · exact .inr rfl
              · exact .inl (List.mem_cons_of_mem _ hy)
            · rcases List.mem_cons.1 hy with rfl | hy
              · exact .inl (List.mem_cons_self ..)
              · rcases ihT hy with h1 | h1
                · exact .inl (List.mem_cons_of_mem _ h1)
                · exact .inr h1
        rcases mem hy with hy | hy
        · exact ha1 y hy
        · rw [hy]
          rcases hat with e | ⟨z, e, hz⟩
          · rw [e]; exact hu
          · rw [e]; exact old z hz _ (List.mem_cons_self ..)
/-! ### a store of pairs -/
def EAt (en : TypeId) (B : Nat) (w : World) (x : Ent) : Prop := ∃ g, x.1 = ⟨g, 0, none⟩ ∧ B ≤ g ∧ w.heap[g]? = some (.cells #[.pointer (some x.2.1.1), .pointer (some x.2.2)] en (0, 0))
/-- The store lies at s, its map at m. -/
def JM (st el en : TypeId) (B : Nat) (w : World) (s m : Nat) (es : List Ent) : Prop :=
  ∃ (c : Addr) (len : Int) (T : List Bk),
    w.heap[s]? = some (.cells #[.map (some m), .int .i64 len, .iface 104 (.pointer (some c))] st (0, 0)) ∧ B ≤ s ∧ B ≤ m ∧ 0 ≤ len ∧ len ≤ es.length ∧
    MapAt w m (T.map fun x => (x.1, x.2.1)) ∧ EOwn el w B T ∧ BApart T ∧ (∀ h, bkt T h = (es.filter (enHash h)).map (·.1)) ∧ ∀ x ∈ es, EAt en B w x
/-- the blocks a store writes to -/
def JX (el : TypeId) (w : World) (s m : Nat) (j : Nat) : Prop := j = s ∨ j = m ∨ ∃ cs, w.heap[j]? = some (.cells cs el (0, 0))
theorem own_chg {X : Nat → Prop} {w w' : World} {B n : Nat} {e : TypeId} {size : Nat} {v : Value} {xs : List Value} (h : w.ownsRow B e size v n xs) (hc : Chg X w w') (hX : ∀ g cs, w.heap[g]? = some (.cells cs e (0, 0)) → ¬ X g) : w'.ownsRow B e size v n xs := by
  refine ⟨h.1, ?_⟩
  rcases h.2 with hn | ⟨g, cap, cur, rfl, hb, hgg, rest⟩
  · exact .inl hn
  · refine .inr ⟨g, cap, cur, rfl, hb, ?_, rest⟩
    rw [hc.block g (Array.getElem?_eq_some_iff.1 hgg).1 (hX g cur hgg)]
    exact hgg
theorem MapAt.chg {X : Nat → Prop} {w w' : World} {m : Nat} {D : Prs} (h : MapAt w m D) (hc : Chg X w w') (hX : ¬ X m) : MapAt w' m D := by
  obtain ⟨es, c, h1, h2⟩ := h
  exact ⟨es, c, hc.heap h1 hX, h2⟩
theorem JM.chg {st el en : TypeId} {B : Nat} {w w' : World} {s m : Nat} {es : List Ent} {X : Nat → Prop} (h : JM st el en B w s m es) (hc : Chg X w w') (hs : ¬ X s) (hm : ¬ X m) (hX : ∀ g cs e, w.heap[g]? = some (.cells cs e (0, 0)) → e = el ∨ e = en → ¬ X g) : JM st el en B w' s m es := by
  obtain ⟨c, len, T, h1, h2, h3, h4, h5, h6, h7, h8, h9, h10⟩ := h
  refine ⟨c, len, T, hc.heap h1 hs, h2, h3, h4, h5, h6.chg hc hm, fun x hx => ⟨own_chg (h7 x hx).1 hc (fun g cs hg => hX g cs el hg (.inl rfl)), (h7 x hx).2⟩, h8, h9, fun x hx => ?_⟩
  obtain ⟨g, e1, e2, e3⟩ := h10 x hx
  exact ⟨g, e1, e2, hc.heap e3 (hX g _ en e3 (.inr rfl))⟩
theorem JM.dr {st el en : TypeId} {B : Nat} {w w' : World} {s m : Nat} {es : List Ent} (h : JM st el en B w s m es) (hd : Dr w w') : JM st el en B w' s m es := by obtain ⟨n, rfl⟩ := hd; exact h
theorem JM.below {st el en : TypeId} {B : Nat} {w w' : World} {s m : Nat} {es : List Ent} (h : JM st el en B w s m es) (hb : Below w.heap.size w w') : JM st el en B w' s m es := by
  have hc := Chg.of_below (X := fun _ => False) hb
  exact h.chg hc (fun h => h) (fun h => h) (fun _ _ _ _ _ h => h)
theorem JX.chg {el : TypeId} {w : World} {s m : Nat} (g : Nat) (cs : Array Value) (e : TypeId) (h : w.heap[g]? = some (.cells cs e (0, 0))) (he : e ≠ el) (hs : g ≠ s) {cl : Nat} {es : Array MapEntry} (hm : w.heap[m]? = some (.map es cl)) : ¬ JX el w s m g := by
  rintro (rfl | rfl | ⟨cs', h'⟩)
  · exact hs rfl
  · rw [h] at hm; cases hm
  · rw [h] at h'; cases h'; exact he rfl
theorem JM.mapBlock {st el en : TypeId} {B : Nat} {w : World} {s m : Nat} {es : List Ent} (h : JM st el en B w s m es) : ∃ es' cl, w.heap[m]? = some (.map es' cl) := by
  obtain ⟨c, len, T, h1, h2, h3, h4, h5, ⟨es', cl, h6, _⟩, _⟩ := h
  exact ⟨es', cl, h6⟩
/-- Choices stay, whatever a store of pairs does. -/
theorem JM.stay {st el en : TypeId} {B : Nat} {w w' : World} {s m : Nat} {es : List Ent} (h : JM st el en B w s m es) (hst : ¬ ctxTy st) (hel : ¬ ctxTy el) (hc : Chg (JX el w s m) w w') : Stay w w' := by
  obtain ⟨es', cl, hm⟩ := h.mapBlock
  obtain ⟨c, len, T, h1, _⟩ := h
  refine hc.stay (fun g cs e hg he => JX.chg g cs e hg (fun e' => hel (e' ▸ he)) (fun e' => ?_) hm)
  subst e'
  rw [hg] at h1; cases h1
  exact hst he
end Go.Proofs.Ytcbabfndfikejaa
namespace Go.Proofs.Ytcbabfndfikejaa
open Go.RowKit
set_option linter.unusedSimpArgs false
/-- The store lies at s, its map at m, all of it in the blocks F. -/
def JF (st el en : TypeId) (B : Nat) (w : World) (s m : Nat) (es : List Ent) (F : Nat → Prop) : Prop :=
  ∃ (c : Addr) (len : Int) (T : List Bk),
    w.heap[s]? = some (.cells #[.map (some m), .int .i64 len, .iface 104 (.pointer (some c))] st (0, 0)) ∧ B ≤ s ∧ B ≤ m ∧ 0 ≤ len ∧ len ≤ es.length ∧
    MapAt w m (T.map fun x => (x.1, x.2.1)) ∧ EOwn el w B T ∧ BApart T ∧ (∀ h, bkt T h = (es.filter (enHash h)).map (·.1)) ∧ (∀ x ∈ es, EAt en B w x) ∧
    (F s ∧ F m ∧ (∀ x ∈ T, ∀ g, x.2.1.ownBlock = some g → F g) ∧ (∀ x ∈ es, F x.1.block) ∧ ∀ g, F g → g < w.heap.size)
theorem JF.jm {st el en : TypeId} {B : Nat} {w : World} {s m : Nat} {es : List Ent} {F : Nat → Prop} (h : JF st el en B w s m es F) : JM st el en B w s m es := by
  obtain ⟨c, len, T, h1, h2, h3, h4, h5, h6, h7, h8, h9, h10, _⟩ := h
  exact ⟨c, len, T, h1, h2, h3, h4, h5, h6, h7, h8, h9, h10⟩
theorem JF.lt {st el en : TypeId} {B : Nat} {w : World} {s m : Nat} {es : List Ent} {F : Nat → Prop} (h : JF st el en B w s m es F) : ∀ g, F g → g < w.heap.size := by
  obtain ⟨c, len, T, h1, h2, h3, h4, h5, h6, h7, h8, h9, h10, _, _, _, _, h11⟩ := h
  exact h11
theorem JF.chg {st el en : TypeId} {B : Nat} {w w' : World} {s m : Nat} {es : List Ent} {F X : Nat → Prop} (h : JF st el en B w s m es F) (hc : Chg X w w') (hX : ∀ g, F g → ¬ X g) : JF st el en B w' s m es F := by
  obtain ⟨c, len, T, h1, h2, h3, h4, h5, h6, h7, h8, h9, h10, f1, f2, f3, f4, f5⟩ := h
  refine ⟨c, len, T, hc.heap h1 (hX _ f1), h2, h3, h4, h5, h6.chg hc (hX _ f2), fun x hx => ⟨?_, (h7 x hx).2⟩, h8, h9, fun x hx => ?_, f1, f2, f3, f4, fun g hg => Nat.lt_of_lt_of_le (f5 g hg) hc.size⟩
  · have hr := (h7 x hx).1
    refine ⟨hr.1, ?_⟩
    rcases hr.2 with hn | ⟨g, cap, cur, e, hb, hgg, rest⟩
    · exact .inl hn
    · refine .inr ⟨g, cap, cur, e, hb, ?_, rest⟩
      rw [hc.block g (Array.getElem?_eq_some_iff.1 hgg).1 (hX g (f3 x hx g (by rw [e]; rfl)))]
      exact hgg
  · obtain ⟨g, e1, e2, e3⟩ := h10 x hx
    exact ⟨g, e1, e2, hc.heap e3 (hX _ (by have := f4 x hx; rw [e1] at this; exact this))⟩
theorem JF.dr {st el en : TypeId} {B : Nat} {w w' : World} {s m : Nat} {es : List Ent} {F : Nat → Prop} (h : JF st el en B w s m es F) (hd : Dr w w') : JF st el en B w' s m es F := by obtain ⟨n, rfl⟩ := hd; exact h
theorem JF.below {st el en : TypeId} {B : Nat} {w w' : World} {s m : Nat} {es : List Ent} {F : Nat → Prop} (h : JF st el en B w s m es F) (hb : Below w.heap.size w w') : JF st el en B w' s m es F :=
  h.chg (Chg.of_below (X := fun _ => False) hb) (fun _ _ h => h)
/-- a pair more -/
theorem jf_done {st el en : TypeId} {B : Nat} {w wr w2 w3 w4 : World} {s m n a : Nat} {c : Addr} {len : Int} {T : List Bk} {es : List Ent} {p v : Addr} {k : Nat} {f : Tops} {H : Int} {A3 : Option Addr} {c3 : Nat}
    (hne1 : el ≠ st) (hne2 : en ≠ st) (hne3 : el ≠ en) (hH : hsh k f = H) (hd : Dr w wr) (hBs : B ≤ s) (hBm : B ≤ m) (h0 : 0 ≤ len) (h1 : len ≤ es.length) (hown : EOwn el wr B T) (hap : BApart T) (hbk : ∀ h, bkt T h = (es.filter (enHash h)).map (·.1))
    (hes : ∀ x ∈ es, EAt en B wr x) {F : Nat → Prop} (hF : F s ∧ F m ∧ (∀ x ∈ T, ∀ g, x.2.1.ownBlock = some g → F g) ∧ (∀ x ∈ es, F x.1.block) ∧ ∀ g, F g → g < wr.heap.size)
    (hbo : wr.ownsRow B el 1 (bval T H) n (ptrs (bkt T H))) (hlen : (bkt T H).length = n) (hsl : s < wr.heap.size)
    (hb2 : Below wr.heap.size wr w2) (ha : w2.heap[a]? = some (.cells #[.pointer (some p), .pointer (some v)] en (0, 0))) (haw : wr.heap.size ≤ a)
    (hgr : w2.grownBy w3 (bval T H).ownBlock) (hat : (Value.slice A3 (n + 1) c3).ownBlock = (bval T H).ownBlock ∨ ∃ z, (Value.slice A3 (n + 1) c3).ownBlock = some z ∧ wr.heap.size ≤ z)
    (hown3 : w3.ownsRow B el 1 (.slice A3 (n + 1) c3) (n + 1) (ptrs (bkt T H) ++ [.pointer (some ⟨a, 0, none⟩)])) (hm4 : MapAt w4 m (Prs.put (T.map fun x => (x.1, x.2.1)) H (.slice A3 (n + 1) c3))) (hg4 : w3.grownBy w4 (some m))
    (hs4 : w4.heap[s]? = some (.cells #[.map (some m), .int .i64 len, .iface 104 (.pointer (some c))] st (0, 0))) (hm3 : MapAt w3 m (T.map fun x => (x.1, x.2.1))) (hsm : s ≠ m) :
    ∃ F', JF st el en B (w4.setCell ⟨s, 1, none⟩ (.int .i64 (len + 1))) s m (es ++ [(⟨a, 0, none⟩, (p, k, f), v)]) F' ∧ (∀ j, F' j → F j ∨ w.heap.size ≤ j) ∧ Below B w (w4.setCell ⟨s, 1, none⟩ (.int .i64 (len + 1))) ∧ Chg (fun j => F j ∧ JX el w s m j) w (w4.setCell ⟨s, 1, none⟩ (.int .i64 (len + 1))) := by
  have hset : w4.grownBy (w4.setCell ⟨s, 1, none⟩ (.int .i64 (len + 1))) (some s) := ⟨rfl, rfl, rfl, by simp [World.setCell], fun j _ hj => Below.heap_setCell _ _ _ _ (fun e => hj (by rw [e]))⟩
  have keep4 : ∀ (v : Value) n xs, w3.ownsRow B el 1 v n xs → (w4.setCell ⟨s, 1, none⟩ (.int .i64 (len + 1))).ownsRow B el 1 v n xs := by
    intro v n xs h
    have a1 := h.kept hg4 (.inr (fun e => own_map_ne h hm3 e.symm))
    exact a1.kept hset (.inr (fun e => own_cells_ne a1 hs4 hne1 e.symm))
  have h3' : (w4.setCell ⟨s, 1, none⟩ (.int .i64 (len + 1))).ownsRow B el 1 (.slice A3 (n + 1) c3) (bkt T H ++ [(⟨a, 0, none⟩ : Addr)]).length (ptrs (bkt T H ++ [(⟨a, 0, none⟩ : Addr)])) := by
    have := keep4 _ _ _ hown3
    have e1 : (bkt T H ++ [(⟨a, 0, none⟩ : Addr)]).length = n + 1 := by simp [hlen]
    have e2 : ptrs (bkt T H ++ [(⟨a, 0, none⟩ : Addr)]) = ptrs (bkt T H) ++ [.pointer (some ⟨a, 0, none⟩)] := by simp [ptrs]
    rw [e1, e2]; exact this
  have key := bput_ownE (w := wr) (h := H) (l3 := bkt T H ++ [(⟨a, 0, none⟩ : Addr)]) h3' (by simp) hown hap (fun v n xs h hn hne => keep4 _ _ _ ((ownsRow_ext h hb2).kept hgr (.inr hne))) hat
  have hB0 : B ≤ wr.heap.size := by omega
  obtain ⟨me, mc, hmb, _⟩ := hm3
  have cells : ∀ (g : Nat) (cs : Array Value), w2.heap[g]? = some (Obj.cells cs en (0, 0)) → (w4.setCell ⟨s, 1, none⟩ (.int .i64 (len + 1))).heap[g]? = some (Obj.cells cs en (0, 0)) := by
    intro g cs hg
    have l2 := (Array.getElem?_eq_some_iff.1 hg).1
    have hne : some g ≠ (bval T H).ownBlock := by
      have ho2 := ownsRow_ext hbo hb2
      rcases ho2.2 with ⟨e, _⟩ | ⟨g', cap, cur, e, _, hh, _⟩
      · rw [e]; simp [Value.ownBlock]
      · rw [e]; intro e'
        have : g = g' := by simpa [Value.ownBlock] using e'
        subst this
        rw [hg] at hh; cases hh; exact hne3 rfl
    have e3 := (hgr.block g l2 hne).trans hg
    have hgm : g ≠ m := by rintro rfl; rw [e3] at hmb; cases hmb
    have e4 := (hg4.block g (Array.getElem?_eq_some_iff.1 e3).1 (fun e => hgm (Option.some.inj e))).trans e3
    have hgs : g ≠ s := by rintro rfl; rw [e4] at hs4; cases hs4; exact hne2 rfl
    exact (hset.block g (Array.getElem?_eq_some_iff.1 e4).1 (fun e => hgs (Option.some.inj e))).trans e4
  obtain ⟨F1, F2, F3, F4, F5⟩ := hF
  have hwr := hd.heap
  have sz4 : wr.heap.size ≤ w4.heap.size := Nat.le_trans hb2.size (Nat.le_trans hgr.size hg4.size)
  refine ⟨fun j => F j ∨ j = a ∨ (Value.slice A3 (n + 1) c3).ownBlock = some j, ⟨c, len + 1, bput T H (.slice A3 (n + 1) c3) (bkt T H ++ [⟨a, 0, none⟩]), ?_, hBs, hBm, by omega, by simp; omega, ?_, key.1, key.2, ?_, ?_, .inl F1, .inl F2, ?_, ?_, ?_⟩, ?_, ?_, ?_⟩
  · rw [heap_setCell_same w4 s 1 _ _ _ hs4]; rfl
  · rw [bput_map]
    exact hm4.grown hset (fun e => hsm (Option.some.inj e).symm)
  · intro h
    rw [bput_bkt, List.filter_append, List.map_append]
    by_cases hh : h = H
    · rw [if_pos hh, hbk, hh]
      congr 1
      have : enHash H (⟨a, 0, none⟩, (p, k, f), v) = true := decide_eq_true hH
      simp [List.filter, this]
    · rw [if_neg hh, hbk]
      have : enHash h (⟨a, 0, none⟩, (p, k, f), v) = false := decide_eq_false (fun e => hh (by rw [← e, hH]))
      simp [List.filter, this]
  · intro x hx
    rcases List.mem_append.1 hx with hx | hx
    · obtain ⟨g, e1, e2, e3⟩ := hes x hx
      exact ⟨g, e1, e2, cells g _ ((hb2.block g (Array.getElem?_eq_some_iff.1 e3).1).trans e3)⟩
    · simp at hx; subst hx
      exact ⟨a, rfl, by omega, cells a _ ha⟩
  · intro x hx g hg
    have mem : ∀ {l4 : List Addr} {T : List Bk}, x ∈ bput T H (.slice A3 (n + 1) c3) l4 → x ∈ T ∨ x.2.1 = .slice A3 (n + 1) c3 := by
      intro l4 T
      induction T with
      | nil => intro hy; simp [bput] at hy; subst hy; exact .inr rfl
      | cons z T ihT =>
        obtain ⟨z1, z2, z3⟩ := z
        intro hy
        unfold bput at hy
        split at hy
        · rcases List.mem_cons.1 hy with rfl | hy
          · exact .inr rfl
          · exact .inl (List.mem_cons_of_mem _ hy)
        · rcases List.mem_cons.1 hy with rfl | hy
          · exact .inl (List.mem_cons_self ..)
          · rcases ihT hy with h1 | h1
            · exact .inl (List.mem_cons_of_mem _ h1)
            · exact .inr h1
    rcases mem hx with h | h
    · exact .inl (F3 x h g hg)
    · rw [h] at hg; exact .inr (.inr hg)
  · intro x hx
    rcases List.mem_append.1 hx with hx | hx
    · exact .inl (F4 x hx)
    · simp at hx; subst hx; exact .inr (.inl rfl)
  · intro g hg
    have hsz : (w4.setCell ⟨s, 1, none⟩ (.int .i64 (len + 1))).heap.size = w4.heap.size := by simp [World.setCell]
    rw [hsz]
    rcases hg with hg | rfl | hg
    · exact Nat.lt_of_lt_of_le (F5 g hg) sz4
    · have := (Array.getElem?_eq_some_iff.1 ha).1
      exact Nat.lt_of_lt_of_le this (Nat.le_trans hgr.size hg4.size)
    · exact Nat.lt_of_lt_of_le (hown3.lt g hg).2 hg4.size
  · intro j hj
    rcases hj with hj | rfl | hj
    · exact .inl hj
    · exact .inr (by rw [← hwr]; exact haw)
    · rcases hat with e | ⟨z, e, hz⟩
      · rw [hj] at e
        rcases bval_mem T H with h | ⟨x, h1, h2⟩
        · rw [h] at e; simp [Value.ownBlock] at e
        · rw [h2] at e; exact .inl (F3 x h1 j e.symm)
      · rw [hj] at e; cases e
        exact .inr (by rw [← hwr]; exact hz)
  · have h1' : Below B w wr := hd.below.mono (by rw [← hd.heap]; exact hB0)
    have h2' : Below B wr w2 := hb2.mono hB0
    have hw : Below B w w2 := h1'.trans h2'
    have b3 : Below B w w3 := hw.grown hgr (Nat.le_trans hB0 hb2.size) (fun x hx => (hbo.lt x hx).1)
    have b4 : Below B w w4 := b3.grown hg4 (Nat.le_trans hB0 (Nat.le_trans hb2.size hgr.size)) (fun x hx => by cases hx; exact hBm)
    exact b4.setCell hBs _
  · have hh := hd.heap
    have hos : Below wr.heap.size wr wr := Below.refl _ _
    obtain ⟨dn, hdn⟩ := hd
    have hos1 : wr.os = w.os ∧ wr.tape = w.tape ∧ wr.output = w.output := by rw [hdn]; exact ⟨rfl, rfl, rfl⟩
    refine ⟨hset.os.trans (hg4.os.trans (hgr.os.trans (hb2.os.trans hos1.1))), hset.tape.trans (hg4.tape.trans (hgr.tape.trans (hb2.tape.trans hos1.2.1))), hset.output.trans (hg4.output.trans (hgr.output.trans (hb2.output.trans hos1.2.2))), ?_, ?_⟩
    · rw [← hh]; exact Nat.le_trans hb2.size (Nat.le_trans hgr.size (Nat.le_trans hg4.size hset.size))
    · intro j hj hx
      rw [← hh] at hj
      have hjs : j ≠ s := fun e => hx ⟨e ▸ F1, .inl e⟩
      have hjm : j ≠ m := fun e => hx ⟨e ▸ F2, .inr (.inl e)⟩
      have hjr : some j ≠ (bval T H).ownBlock := by
        rcases hbo.2 with ⟨e, _⟩ | ⟨g', cap, cur, e, _, hq, _⟩
        · rw [e]; simp [Value.ownBlock]
        · intro e'
          have hFj : F j := by
            rcases bval_mem T H with h | ⟨x, h1, h2⟩
            · rw [h] at e'; simp [Value.ownBlock] at e'
            · rw [h2] at e'; exact F3 x h1 j e'.symm
          rw [e] at e'
          have : j = g' := by simpa [Value.ownBlock] using e'
          subst this
          exact hx ⟨hFj, .inr (.inr ⟨_, by rw [← hh]; exact hq⟩)⟩
      have e2 := hb2.block j hj
      have e3 := hgr.block j (Nat.lt_of_lt_of_le hj hb2.size) hjr
      have e4 := hg4.block j (Nat.lt_of_lt_of_le hj (Nat.le_trans hb2.size hgr.size)) (fun e => hjm (Option.some.inj e))
      have e5 := hset.block j (Nat.lt_of_lt_of_le hj (Nat.le_trans hb2.size (Nat.le_trans hgr.size hg4.size))) (fun e => hjs (Option.some.inj e))
      rw [e5, e4, e3, e2, hh]
end Go.Proofs.Ytcbabfndfikejaa
namespace Go.Proofs.Ytcbabfndfikejaa
open Go.RowKit
set_option linter.unusedSimpArgs false
/-- The array of none lies at p. -/
def Nil2 (w : World) (p : Addr) : Prop := ∃ g a c a' c', p = ⟨g, 0, none⟩ ∧ w.heap[g]? = some (.cells #[.int .i64 (hsh 2 .nil), .int .i64 2, .pointer none, .int .i64 0, .slice (some a) 0 c, .slice (some a') 0 c'] 97 (0, 0))
/-- A key lies at p. -/
def KO (w : World) (p : Addr) (k : Nat) (f : Tops) : Prop := Rep w NoX p k f ∧ ((Wf k f ∧ k ≠ 0) ∨ (k = 2 ∧ f = .nil ∧ Nil2 w p))
theorem Nil2.stay {w w' : World} {p : Addr} (h : Nil2 w p) (hs : Stay w w') : Nil2 w' p := by
  obtain ⟨g, a, c, a', c', h1, h2⟩ := h
  exact ⟨g, a, c, a', c', h1, hs.2 _ _ _ (.inl rfl) h2⟩
theorem KO.stay {w w' : World} {p : Addr} {k : Nat} {f : Tops} (h : KO w p k f) (hs : Stay w w') : KO w' p k f :=
  ⟨h.1.stay hs, h.2.imp id (fun ⟨h1, h2, h3⟩ => ⟨h1, h2, h3.stay hs⟩)⟩
theorem ints0_any (a a' : Addr) (n n' c c' : Nat) (w : World) (h : n = 0 ∨ n' = 0) : Calls Try.prog 92 #[.slice (some a) n c, .slice (some a') n' c'] w (BoolPost (decide (n = n')) w) := by
  have q1 := eqlNil22
  rcases Nat.eq_zero_or_pos n with h0 | h0
  · subst h0
    rcases Nat.eq_zero_or_pos n' with h1 | h1
    · subst h1
      go_enter Try.func92, Try.ntmps92
      go_wp2_with fail
      go_ret
      exact ⟨rfl, rfl⟩
    · have hn2 : ((n' : Int) == 0) = false := by rw [beq_eq_false_iff_ne]; omega
      have hn3 : ¬ (n' : Int) = 0 := by omega
      have e : decide (0 = n') = false := decide_eq_false (by omega)
      rw [e]
      clear h
      go_enter Try.func92, Try.ntmps92
      go_wp2_with fail
      go_ret
      exact ⟨rfl, rfl⟩
  · have h1 : n' = 0 := by omega
    subst h1
    have hn2 : ((n : Int) == 0) = false := by rw [beq_eq_false_iff_ne]; omega
    have hn3 : ¬ (n : Int) = 0 := by omega
    have e : decide (n = 0) = false := decide_eq_false (by omega)
    rw [e]
    clear h
    go_enter Try.func92, Try.ntmps92
    go_wp2_with fail
    go_ret
    exact ⟨rfl, rfl⟩
theorem pcs0_any (a a' : Addr) (c c' : Nat) (w : World) : Calls Try.prog 93 #[.slice (some a) 0 c, .slice (some a') 0 c'] w (BoolPost true w) := by
  have q1 := eqlNil73
  go_enter Try.func93, Try.ntmps93
  go_wp2_with fail
  go_ret
  exact ⟨rfl, rfl⟩
set_option maxRecDepth 20000 in
set_option maxHeartbeats 2000000 in
/-- arrays, one of which has none -/
theorem arr0_any (g g' n n' c c' ci ci' : Nat) (a a' ai ai' : Addr) (h h' : Int) (w : World) (hn : n = 0 ∨ n' = 0) (hh : n = n' → h = h')
    (hg : w.heap[g]? = some (.cells #[.int .i64 h, .int .i64 2, .pointer none, .int .i64 0, .slice (some a) n c, .slice (some ai) n ci] 97 (0, 0)))
    (hg' : w.heap[g']? = some (.cells #[.int .i64 h', .int .i64 2, .pointer none, .int .i64 0, .slice (some a') n' c', .slice (some ai') n' ci'] 97 (0, 0)))
    (hr : ∀ m, Calls Try.prog 53 #[.pointer (some ⟨g', 0, none⟩)] (w.drewN m) (IntPost h' (w.drewN m))) :
    Calls Try.prog 71 #[.pointer (some ⟨g, 0, none⟩), .iface 72 (.pointer (some ⟨g', 0, none⟩))] w (EqPost (decide (n = n')) w) := by
  have c0 : w.cell? ⟨g, 0, none⟩ = some (.int .i64 h) := cell_of hg 0
  have c4 : w.cell? ⟨g, 4, none⟩ = some (.slice (some a) n c) := cell_of hg 4
  have c5 : w.cell? ⟨g, 5, none⟩ = some (.slice (some ai) n ci) := cell_of hg 5
  have d0 : w.cell? ⟨g', 0, none⟩ = some (.int .i64 h') := cell_of hg' 0
  have d1 : w.cell? ⟨g', 1, none⟩ = some (.int .i64 2) := cell_of hg' 1
  have d4 : w.cell? ⟨g', 4, none⟩ = some (.slice (some a') n' c') := cell_of hg' 4
  have d5 : w.cell? ⟨g', 5, none⟩ = some (.slice (some ai') n' ci') := cell_of hg' 5
  have qa := assert72
  have HR := Lib.hid hr
  clear hr hg hg'
  by_cases hhh : h = h'
  · have hh' : (h != h') = false := by rw [bne_eq_false_iff_eq]; exact hhh
    subst hhh
    by_cases hnn : n = n'
    · have hn0 : n = 0 := by omega
      subst hnn
      subst hn0
      clear hn hh
      go_enter Try.func71, Try.ntmps71
      go_wp2_with fail
      go_quiet ((go_at_call 53; exact Calls.quiet_of_same ((HR.out _).mono fun _ _ ⟨a, b⟩ => ⟨a, b.symm⟩)))
      go_wp2_with fail
      obtain ⟨wo, hwo⟩ : ∃ wo : World, wo = w.drewN nq := ⟨_, rfl⟩
      have HD := Lib.hid (show Dr w wo from ⟨nq, hwo⟩)
      have c4 : wo.cell? ⟨g, 4, none⟩ = some (.slice (some a) 0 c) := by rw [hwo]; exact c4
      have c5 : wo.cell? ⟨g, 5, none⟩ = some (.slice (some ai) 0 ci) := by rw [hwo]; exact c5
      have d4 : wo.cell? ⟨g', 4, none⟩ = some (.slice (some a') 0 c') := by rw [hwo]; exact d4
      have d5 : wo.cell? ⟨g', 5, none⟩ = some (.slice (some ai') 0 ci') := by rw [hwo]; exact d5
      rw [← hwo]
      clear hwo
      go_quiet ((first
        | (go_at_call 92; exact Calls.quiet_of_same ((ints0_any ai ai' 0 0 ci ci' _ (.inl rfl)).mono fun _ _ ⟨a, b⟩ => ⟨a, b.symm⟩))
        | (go_at_call 93; exact Calls.quiet_of_same ((pcs0_any a a' c c' _).mono fun _ _ ⟨a, b⟩ => ⟨a, b.symm⟩))))
      go_wp2_with fail
      go_ret
      exact ⟨rfl, HD.out.drewN _⟩
    · have HN := Lib.hid (decide_eq_false hnn)
      have HI := Lib.hid (show ∀ w, Calls Try.prog 92 #[.slice (some ai) n ci, .slice (some ai') n' ci'] w (BoolPost false w) from fun w => by
        have := ints0_any ai ai' n n' ci ci' w hn
        rwa [HN.out] at this)
      clear hn hh hnn
      rw [HN.out]
      go_enter Try.func71, Try.ntmps71
      go_wp2_with fail
      go_quiet ((go_at_call 53; exact Calls.quiet_of_same ((HR.out _).mono fun _ _ ⟨a, b⟩ => ⟨a, b.symm⟩)))
      go_wp2_with fail
      obtain ⟨wo, hwo⟩ : ∃ wo : World, wo = w.drewN nq := ⟨_, rfl⟩
      have HD := Lib.hid (show Dr w wo from ⟨nq, hwo⟩)
      have c4 : wo.cell? ⟨g, 4, none⟩ = some (.slice (some a) n c) := by rw [hwo]; exact c4
      have c5 : wo.cell? ⟨g, 5, none⟩ = some (.slice (some ai) n ci) := by rw [hwo]; exact c5
      have d4 : wo.cell? ⟨g', 4, none⟩ = some (.slice (some a') n' c') := by rw [hwo]; exact d4
      have d5 : wo.cell? ⟨g', 5, none⟩ = some (.slice (some ai') n' ci') := by rw [hwo]; exact d5
      rw [← hwo]
      clear hwo
      go_quiet ((go_at_call 92; exact Calls.quiet_of_same ((HI.out _).mono fun _ _ ⟨a, b⟩ => ⟨a, b.symm⟩)))
      go_wp2_with fail
      go_ret
      exact ⟨rfl, HD.out.drewN _⟩
  · have hh' : (h != h') = true := by rw [bne_iff_ne]; exact hhh
    have HN := Lib.hid (show decide (n = n') = false from decide_eq_false (fun e => hhh (hh e)))
    clear hn hh hhh
    rw [HN.out]
    go_enter Try.func71, Try.ntmps71
    go_wp2_with fail
    go_quiet ((go_at_call 53; exact Calls.quiet_of_same ((HR.out _).mono fun _ _ ⟨a, b⟩ => ⟨a, b.symm⟩)))
    go_wp2_with fail
    go_ret
    exact ⟨rfl, (Dr.refl _).drewN _⟩
/-- a choice with one top is no array -/
theorem single0_any (g g' : Nat) (w : World) (d1 : w.cell? ⟨g', 1, none⟩ = some (.int .i64 2)) :
    Calls Try.prog 70 #[.pointer (some ⟨g, 0, none⟩), .iface 72 (.pointer (some ⟨g', 0, none⟩))] w (EqPost false w) := by
  have qa := assert72
  go_enter Try.func70, Try.ntmps70
  go_wp2_with fail
  go_ret
  exact ⟨rfl, Dr.refl _⟩
set_option maxHeartbeats 2000000 in
theorem equalsK_any (k k' : Nat) (f f' : Tops) (p q : Addr) (w : World) (h : KO w p k f) (h' : KO w q k' f') : Calls Try.prog 52 #[.pointer (some p), .iface 72 (.pointer (some q))] w (EqPost (eqB k f k' f') w) := by
  obtain ⟨hr, hk⟩ := h
  obtain ⟨hr', hk'⟩ := h'
  by_cases hb : (Wf k f ∧ k ≠ 0) ∧ (Wf k' f' ∧ k' ≠ 0)
  · exact equals_any f k f' k' p q w hr hr' hb.1.1 hb.2.1
  have HR := Lib.hid hr
  have HR' := Lib.hid hr'
  have qa := assert72
  have qn := under99
  obtain ⟨g, _, _, _, _, rfl, _, hg⟩ := hr.head
  obtain ⟨g', _, _, _, _, rfl, _, hg'⟩ := hr'.head
  have c1 : w.cell? ⟨g, 1, none⟩ = some (.int .i64 k) := cell_of hg 1
  have d1 : w.cell? ⟨g', 1, none⟩ = some (.int .i64 k') := cell_of hg' 1
  by_cases hgg : g = g'
  · subst hgg
    have HN := Lib.hid (show eqB k f k' f' = true from eqB_true (HR.out.unique HR'.out))
    have q1 := eqI_same w ⟨g, 0, none⟩
    clear hr hr' hk hk' hg hg' c1 d1 hb
    go_enter Try.func52, Try.ntmps52
    go_wp2_with fail
    go_ret
    exact ⟨by rw [HN.out]; rfl, Dr.refl _⟩
  have q1 := eqI_other w (a := ⟨g, 0, none⟩) (b := ⟨g', 0, none⟩) (by intro e; cases e; exact hgg rfl) hg hg'
  have hash : ∀ m, Calls Try.prog 53 #[.pointer (some ⟨g', 0, none⟩)] (w.drewN m) (IntPost (hsh k' f') (w.drewN m)) := fun m => Hash_any _ _ _ _ _ (HR'.out.stay ((Dr.refl w).drewN m).stay)
  -- how an array of some lies
  have arr : ∀ {g : Nat} {f : Tops}, Rep w NoX ⟨g, 0, none⟩ 2 f → Wf 2 f → ∃ a c a' c', 0 < f.len ∧ w.heap[g]? = some (.cells #[.int .i64 (hsh 2 f), .int .i64 2, .pointer none, .int .i64 0, .slice (some a) f.len c, .slice (some a') f.len c'] 97 (0, 0)) := by
    intro g f h hw
    obtain ⟨g0, A, c, Ai, ci, qs, e, _, hql, hsub, hg, hr1, hr2⟩ := h.cells2
    cases e
    have hl : 0 < f.len := by
      rcases hw.1 with ⟨h1, _⟩ | ⟨h1, _⟩ | ⟨_, h1, _⟩
      · cases h1
      · cases h1
      · exact h1
    obtain ⟨b, off, u, rfl, _⟩ := hr1.reads.at1 (k := 0) hl
    obtain ⟨b', off', u', rfl, _⟩ := hr2.reads.at1 (k := 0) hl
    exact ⟨_, c, _, ci, hl, hg⟩
  have call71 : k = 2 → (Calls Try.prog 71 #[.pointer (some ⟨g, 0, none⟩), .iface 72 (.pointer (some ⟨g', 0, none⟩))] w (EqPost (eqB k f k' f') w)) → Calls Try.prog 52 #[.pointer (some ⟨g, 0, none⟩), .iface 72 (.pointer (some ⟨g', 0, none⟩))] w (EqPost (eqB k f k' f') w) := by
    intro hk2 hc
    have HC := Lib.hid hc
    subst hk2
    clear hc hr hr' hk hk' hg hg' d1 hb hash arr hgg
    go_enter Try.func52, Try.ntmps52
    go_wp2_with fail
    refine HC.out.mono ?_
    rintro e w' ⟨rfl, hd⟩
    have HD := Lib.hid hd
    clear hd
    go_wp2_with fail
    go_ret
    exact ⟨rfl, HD.out⟩
  have two : ∀ (n n' : Nat) (a a' ai ai' : Addr) (c c' ci ci' : Nat), k = 2 → k' = 2 → f.len = n → f'.len = n' → (n = 0 ∨ n' = 0) →
      w.heap[g]? = some (.cells #[.int .i64 (hsh k f), .int .i64 2, .pointer none, .int .i64 0, .slice (some a) n c, .slice (some ai) n ci] 97 (0, 0)) →
      w.heap[g']? = some (.cells #[.int .i64 (hsh k' f'), .int .i64 2, .pointer none, .int .i64 0, .slice (some a') n' c', .slice (some ai') n' ci'] 97 (0, 0)) →
      Calls Try.prog 52 #[.pointer (some ⟨g, 0, none⟩), .iface 72 (.pointer (some ⟨g', 0, none⟩))] w (EqPost (eqB k f k' f') w) := by
    intro n n' a a' ai ai' c c' ci ci' hk2 hk2' hfl hfl' h0 hgc hgc'
    have nil : ∀ {f : Tops}, f.len = 0 → f = .nil := fun {f} h => by cases f with | nil => rfl | cons => simp [Tops.len] at h
    have e : decide (n = n') = eqB k f k' f' := by
      unfold eqB
      rw [Bool.eq_iff_iff]
      simp only [decide_eq_true_eq]
      constructor
      · intro e
        have h1 : n = 0 := by omega
        have h2 : n' = 0 := by omega
        exact ⟨by rw [hk2, hk2'], by rw [nil (hfl.trans h1), nil (hfl'.trans h2)]⟩
      · rintro ⟨_, e⟩; rw [← hfl, ← hfl', e]
    refine call71 hk2 ?_
    rw [← e]
    exact arr0_any g g' n n' c c' ci ci' a a' ai ai' _ _ w h0 (fun e' => by
      have h1 : n = 0 := by omega
      have h2 : n' = 0 := by omega
      rw [nil (hfl.trans h1), nil (hfl'.trans h2), hk2, hk2']) hgc hgc' hash
  rcases hk' with ⟨hw', hk0'⟩ | ⟨hk2', rfl, hn2'⟩
  · rcases hk with hk | ⟨rfl, rfl, hn2⟩
    · exact (hb ⟨hk, hw', hk0'⟩).elim
    obtain ⟨_, a, c, a', c', e0, hgc⟩ := hn2
    cases e0
    rcases hw'.1 with ⟨rfl, _⟩ | ⟨rfl, hl⟩ | ⟨rfl, hl, _⟩
    · exact absurd rfl hk0'
    · refine call71 rfl ?_
      rw [eqB_false (by simp)]
      clear hr hr' hg hg' hgc hb hash arr call71 two hgg hw' hk0' hl q1 c1 HR HR'
      go_enter Try.func71, Try.ntmps71
      go_wp2_with fail
      go_ret
      exact ⟨rfl, Dr.refl _⟩
    · obtain ⟨b, d, b', d', hl', hgc'⟩ := arr HR'.out hw'
      exact two 0 f'.len a b a' b' c d c' d' rfl rfl rfl rfl (.inl rfl) hgc hgc'
  · subst hk2'
    obtain ⟨_, b, d, b', d', e0, hgc'⟩ := hn2'
    cases e0
    rcases hk with ⟨hw, hk0⟩ | ⟨rfl, rfl, hn2⟩
    · rcases hw.1 with ⟨rfl, _⟩ | ⟨rfl, hl⟩ | ⟨rfl, hl, _⟩
      · exact absurd rfl hk0
      · obtain ⟨g0, s', q1', kk', sub', e0, rfl, hsub', hgs⟩ := HR.out.cells1
        cases e0
        have HC := Lib.hid (single0_any g g' w d1)
        rw [eqB_false (by simp)]
        clear hr hr' hg hg' hgc' hgs hb hash arr call71 two hgg hw hk0 hl d1 hsub' HR HR'
        go_enter Try.func52, Try.ntmps52
        go_wp2_with fail
        refine HC.out.mono ?_
        rintro e w' ⟨rfl, hd⟩
        have HD := Lib.hid hd
        clear hd
        go_wp2_with fail
        go_ret
        exact ⟨rfl, HD.out⟩
      · obtain ⟨a, c, a', c', hl', hgc⟩ := arr HR.out hw
        exact two f.len 0 a b a' b' c d c' d' rfl rfl rfl rfl (.inr rfl) hgc hgc'
    · obtain ⟨_, a, c, a', c', e0, hgc⟩ := hn2
      cases e0
      exact two 0 0 a b a' b' c d c' d' rfl rfl rfl rfl (.inl rfl) hgc hgc'
set_option maxRecDepth 20000 in
theorem equals2K_any (c : Addr) (f : Tops) (k : Nat) (f' : Tops) (k' : Nat) (p q : Addr) (w : World) (h : KO w p k f) (h' : KO w q k' f') :
    Calls Try.prog 123 #[.pointer (some c), .pointer (some p), .pointer (some q)] w (EqPost (eqB k f k' f') w) := by
  have H := Lib.hid (equalsK_any k k' f f' p q w h h')
  have qm := method_equals
  clear h h'
  go_enter Try.func123, Try.ntmps123
  go_wp2_with fail
  refine H.out.mono ?_
  rintro e w' ⟨rfl, hd⟩
  have HD := Lib.hid hd
  clear hd
  go_wp2_with fail
  go_ret
  exact ⟨rfl, HD.out⟩
end Go.Proofs.Ytcbabfndfikejaa
