/- The walk of Put on a store of choices. Condition: the choices lie in memory and are well made. -/
import Derived.Test.YtcbabfndfikejaaStore
namespace Go.Proofs.Ytcbabfndfikejaa
open Go.RowKit
set_option linter.unusedSimpArgs false

def bput : List Bk → Int → Value → List Addr → List Bk
  | [], h, v, l => [(h, v, l)]
  | (x, u, l0) :: t, h, v, l => if h = x then (x, v, l) :: t else (x, u, l0) :: bput t h v l
theorem bput_map : ∀ (T : List Bk) (h : Int) (v : Value) (l : List Addr), (bput T h v l).map (fun x => (x.1, x.2.1)) = Prs.put (T.map fun x => (x.1, x.2.1)) h v
  | [], _, _, _ => rfl
  | (x, u, l0) :: t, h, v, l => by
    unfold bput
    simp only [List.map_cons, Prs.put]
    split
    · rfl
    · simp only [List.map_cons, bput_map t h v l]
theorem bput_bkt : ∀ (T : List Bk) (h : Int) (v : Value) (l : List Addr) (g : Int), bkt (bput T h v l) g = if g = h then l else bkt T g
  | [], h, v, l, g => by simp [bput, bkt]
  | (x, u, l0) :: t, h, v, l, g => by
    unfold bput
    by_cases hx : h = x
    · subst hx
      rw [if_pos rfl]
      unfold bkt
      by_cases hg : g = h
      · simp [hg]
      · simp [hg]
    · rw [if_neg hx]
      unfold bkt
      by_cases hg : g = x
      · subst hg
        rw [if_pos rfl, if_neg (fun e => hx e.symm), if_pos rfl]
      · rw [if_neg hg, bput_bkt t h v l g, if_neg hg]
theorem bval_mem : ∀ (T : List Bk) (h : Int), bval T h = .slice none 0 0 ∨ ∃ x ∈ T, bval T h = x.2.1
  | [], _ => .inl rfl
  | (x, u, l0) :: t, h => by
    unfold bval
    split
    · exact .inr ⟨_, List.mem_cons_self .., rfl⟩
    · rcases bval_mem t h with h1 | ⟨y, h1, h2⟩
      · exact .inl h1
      · exact .inr ⟨y, List.mem_cons_of_mem _ h1, h2⟩
def BOwn (w : World) (B : Nat) (T : List Bk) : Prop := ∀ x ∈ T, w.ownsRow B 72 1 x.2.1 x.2.2.length (ptrs x.2.2) ∧ 0 < x.2.2.length
def BApart (T : List Bk) : Prop := T.Pairwise (fun x y => x.2.1.ownBlock ≠ y.2.1.ownBlock)
theorem own_pos {w : World} {B n : Nat} {e : TypeId} {v : Value} {xs : List Value} (h : w.ownsRow B e 1 v n xs) (hn : 0 < n) : v.ownBlock ≠ none := by
  obtain ⟨g, cap, rfl, _⟩ := h.form hn
  simp [Value.ownBlock]
/-- a pointer more in a bucket -/
theorem bput_own {w w4 : World} {B : Nat} {h : Int} {v3 : Value} {l3 : List Addr} (h3 : w4.ownsRow B 72 1 v3 l3.length (ptrs l3)) (hl3 : 0 < l3.length) : ∀ {T : List Bk}, BOwn w B T → BApart T →
    (∀ (v : Value) n xs, w.ownsRow B 72 1 v n xs → 0 < n → v.ownBlock ≠ (bval T h).ownBlock → w4.ownsRow B 72 1 v n xs) →
    (v3.ownBlock = (bval T h).ownBlock ∨ ∃ z, v3.ownBlock = some z ∧ w.heap.size ≤ z) → BOwn w4 B (bput T h v3 l3) ∧ BApart (bput T h v3 l3)
  | [], _, _, _, _ => by
    refine ⟨fun x hx => ?_, ?_⟩
    · simp [bput] at hx; subst hx; exact ⟨h3, hl3⟩
    · exact List.pairwise_singleton ..
  | (x, u, l0) :: t, ho, ha, hk, hat => by
    have ho1 := ho _ (List.mem_cons_self ..)
    have ho2 : BOwn w B t := fun y hy => ho y (List.mem_cons_of_mem _ hy)
    obtain ⟨ha1, ha2⟩ := List.pairwise_cons.1 ha
    have hne3 := own_pos h3 hl3
    have old : ∀ z, w.heap.size ≤ z → ∀ y ∈ (x, u, l0) :: t, y.2.1.ownBlock ≠ some z := by
      intro z hz y hy e
      have := ((ho y hy).1.lt _ e).2
      omega
    unfold bput
    by_cases hx : h = x
    · rw [if_pos hx]
      have hb : bval ((x, u, l0) :: t) h = u := by unfold bval; rw [if_pos hx]
      rw [hb] at hk hat
      refine ⟨fun y hy => ?_, ?_⟩
      · rcases List.mem_cons.1 hy with rfl | hy
        · exact ⟨h3, hl3⟩
        · have := ho2 y hy
          exact ⟨hk _ _ _ this.1 this.2 (fun e => ha1 y hy e.symm), this.2⟩
      · refine List.pairwise_cons.2 ⟨fun y hy => ?_, ha2⟩
        simp only
        rcases hat with e | ⟨z, e, hz⟩
        · rw [e]; exact ha1 y hy
        · rw [e]; exact fun e' => old z hz y (List.mem_cons_of_mem _ hy) e'.symm
    · rw [if_neg hx]
      have hb : bval ((x, u, l0) :: t) h = bval t h := by simp [bval, hx]
      rw [hb] at hk hat
      have ih := bput_own h3 hl3 ho2 ha2 hk hat
      have hu : u.ownBlock ≠ (bval t h).ownBlock := by
        rcases bval_mem t h with e | ⟨y, hy, e⟩
        · rw [e]; exact own_pos ho1.1 ho1.2
        · rw [e]; exact ha1 y hy
      refine ⟨fun y hy => ?_, ?_⟩
      · rcases List.mem_cons.1 hy with rfl | hy
        · exact ⟨hk _ _ _ ho1.1 ho1.2 hu, ho1.2⟩
        · exact ih.1 y hy
      · refine List.pairwise_cons.2 ⟨fun y hy => ?_, ih.2⟩
        simp only
        have mem : ∀ {T : List Bk}, y ∈ bput T h v3 l3 → y ∈ T ∨ y.2.1 = v3 := by
          intro T
          induction T with
          | nil => intro hy; simp [bput] at hy; subst hy; exact .inr rfl
          | cons z T ihT =>
            obtain ⟨z1, z2, z3⟩ := z
            intro hy
            unfold bput at hy
            split at hy
            · rcases List.mem_cons.1 hy with rfl | hy
              · exact .inr rfl
              · exact .inl (List.mem_cons_of_mem _ hy)
            · rcases List.mem_cons.1 hy with rfl | hy
              · exact .inl (List.mem_cons_self ..)
              · rcases ihT hy with h1 | h1
                · exact .inl (List.mem_cons_of_mem _ h1)
                · exact .inr h1
        rcases mem hy with hy | hy
        · exact ha1 y hy
        · rw [hy]
          rcases hat with e | ⟨z, e, hz⟩
          · rw [e]; exact hu
          · rw [e]; exact old z hz _ (List.mem_cons_self ..)
theorem JS.dr {B : Nat} {w w' : World} {s : Nat} {kn : List Kn} (h : JS B w s kn) (hd : Dr w w') : JS B w' s kn := by obtain ⟨n, rfl⟩ := hd; exact h
theorem MapAt.grown {w w' : World} {m : Nat} {D : Prs} {row : Option Nat} (h : MapAt w m D) (hg : w.grownBy w' row) (hne : some m ≠ row) : MapAt w' m D := by
  obtain ⟨es, c, h1, h2⟩ := h
  exact ⟨es, c, (hg.block m (Array.getElem?_eq_some_iff.1 h1).1 hne).trans h1, h2⟩
/-- a map's block is no row's -/
theorem own_map_ne {w : World} {B n : Nat} {e : TypeId} {v : Value} {xs : List Value} {m : Nat} {D : Prs} (h : w.ownsRow B e 1 v n xs) (hm : MapAt w m D) : some m ≠ v.ownBlock := by
  obtain ⟨es, c, h1, _⟩ := hm
  rcases h.2 with ⟨rfl, _⟩ | ⟨g, cap, cur, rfl, _, hh, _⟩
  · simp [Value.ownBlock]
  · intro e
    have : m = g := by simpa [Value.ownBlock] using e
    subst this
    rw [h1] at hh; cases hh
theorem own_cells_ne {w : World} {B n s : Nat} {e t : TypeId} {v : Value} {xs : List Value} {cs : Array Value} (h : w.ownsRow B e 1 v n xs) (hm : w.heap[s]? = some (.cells cs t (0, 0))) (hne : e ≠ t) : some s ≠ v.ownBlock := by
  rcases h.2 with ⟨rfl, _⟩ | ⟨g, cap, cur, rfl, _, hh, _⟩
  · simp [Value.ownBlock]
  · intro e
    have : s = g := by simpa [Value.ownBlock] using e
    subst this
    rw [hm] at hh; cases hh; exact hne rfl
def knAdd (kn : List Kn) (p : Addr) (k : Nat) (f : Tops) : List Kn := if (fstK kn k f).isSome then kn else kn ++ [(p, k, f)]
def PutPost (B : Nat) (s : Nat) (kn : List Kn) (w : World) (e : Ending) (w' : World) : Prop := ∃ r ok, e = .returned (.tuple #[.pointer (some r), .bool ok]) ∧ JS B w' s kn ∧ Below B w w'

theorem store_done {B : Nat} {w wr w3 w4 : World} {s m n : Nat} {c : Addr} {len : Int} {T : List Bk} {kn : List Kn} {p : Addr} {k : Nat} {f : Tops} {H : Int} {A3 : Option Addr} {c3 : Nat}
    (hH : hsh k f = H) (hd : Dr w wr) (hBs : B ≤ s) (hBm : B ≤ m) (h0 : 0 ≤ len) (h1 : len ≤ kn.length) (hown : BOwn wr B T) (hap : BApart T) (hbk : ∀ h, bkt T h = (kn.filter (hashIs h)).map (·.1))
    (hbo : wr.ownsRow B 72 1 (bval T H) n (ptrs (bkt T H))) (hlen : (bkt T H).length = n) (hsl : s < wr.heap.size)
    (hgr : wr.grownBy w3 (bval T H).ownBlock) (hat : (Value.slice A3 (n + 1) c3).ownBlock = (bval T H).ownBlock ∨ ∃ z, (Value.slice A3 (n + 1) c3).ownBlock = some z ∧ wr.heap.size ≤ z)
    (hown3 : w3.ownsRow B 72 1 (.slice A3 (n + 1) c3) (n + 1) (ptrs (bkt T H) ++ [.pointer (some p)])) (hm4 : MapAt w4 m (Prs.put (T.map fun x => (x.1, x.2.1)) H (.slice A3 (n + 1) c3))) (hg4 : w3.grownBy w4 (some m))
    (hs4 : w4.heap[s]? = some (.cells #[.map (some m), .int .i64 len, .iface 104 (.pointer (some c))] 131 (0, 0))) (hm3 : MapAt w3 m (T.map fun x => (x.1, x.2.1))) (hsm : s ≠ m) :
    JS B (w4.setCell ⟨s, 1, none⟩ (.int .i64 (len + 1))) s (kn ++ [(p, k, f)]) ∧ Below B w (w4.setCell ⟨s, 1, none⟩ (.int .i64 (len + 1))) := by
  have hset : w4.grownBy (w4.setCell ⟨s, 1, none⟩ (.int .i64 (len + 1))) (some s) := ⟨rfl, rfl, rfl, by simp [World.setCell], fun j _ hj => Below.heap_setCell _ _ _ _ (fun e => hj (by rw [e]))⟩
  have keep4 : ∀ (v : Value) n xs, w3.ownsRow B 72 1 v n xs → (w4.setCell ⟨s, 1, none⟩ (.int .i64 (len + 1))).ownsRow B 72 1 v n xs := by
    intro v n xs h
    have a1 := h.kept hg4 (.inr (fun e => own_map_ne h hm3 e.symm))
    exact a1.kept hset (.inr (fun e => own_cells_ne a1 hs4 (by decide) e.symm))
  have h3' : (w4.setCell ⟨s, 1, none⟩ (.int .i64 (len + 1))).ownsRow B 72 1 (.slice A3 (n + 1) c3) (bkt T H ++ [p]).length (ptrs (bkt T H ++ [p])) := by
    have := keep4 _ _ _ hown3
    have e1 : (bkt T H ++ [p]).length = n + 1 := by simp [hlen]
    have e2 : ptrs (bkt T H ++ [p]) = ptrs (bkt T H) ++ [.pointer (some p)] := by simp [ptrs]
    rw [e1, e2]; exact this
  have key := bput_own (w := wr) (h := H) h3' (by simp) hown hap (fun v n xs h hn hne => keep4 _ _ _ (h.kept hgr (.inr hne))) hat
  have hB0 : B ≤ wr.heap.size := by omega
  refine ⟨⟨m, c, len + 1, bput T H (.slice A3 (n + 1) c3) (bkt T H ++ [p]), ?_, hBs, hBm, by omega, by simp; omega, ?_, key.1, key.2, ?_⟩, ?_⟩
  · rw [heap_setCell_same w4 s 1 _ _ _ hs4]; rfl
  · rw [bput_map]
    exact hm4.grown hset (fun e => hsm (Option.some.inj e).symm)
  · intro h
    rw [bput_bkt, List.filter_append, List.map_append]
    by_cases hh : h = H
    · rw [if_pos hh, hbk, hh]
      congr 1
      have : hashIs H (p, k, f) = true := decide_eq_true hH
      simp [List.filter, this]
    · rw [if_neg hh, hbk]
      have : hashIs h (p, k, f) = false := decide_eq_false (fun e => hh (by rw [← e, hH]))
      simp [List.filter, this]
  · have hw : Below B w wr := hd.below.mono (by rw [← hd.heap]; exact hB0)
    have b3 : Below B w w3 := hw.grown hgr hB0 (fun x hx => (hbo.lt x hx).1)
    have b4 : Below B w w4 := b3.grown hg4 (Nat.le_trans hB0 hgr.size) (fun x hx => by cases hx; exact hBm)
    exact b4.setCell hBs _

theorem pc72_info : (Try.prog.info? 72).map (fun i => (i.zero, i.size, i.bytes)) = some (some (.pointer none), 1, 8) := by kernel_rfl

set_option maxRecDepth 20000 in
set_option maxHeartbeats 4000000 in
theorem storePut_any (B : Nat) (w : World) (s : Nat) (kn : List Kn) (p : Addr) (k : Nat) (f : Tops) (hs : JS B w s kn) (hkn : AllK w kn) (hm : kn.length ≤ 1000) (hp : Rep w NoX p k f) (hw : Wf k f) :
    Calls Try.prog 73 #[.pointer (some ⟨s, 0, none⟩), .pointer (some p)] w (PutPost B s (knAdd kn p k f) w) := by
  obtain ⟨i0, hi0, hz0, hz1, hz2⟩ := info_parts pc72_info
  have HJS := Lib.hid hs
  obtain ⟨m, c, len, T, hsb, hBs, hBm, hlen0, hlen1, hmap, hown, hap, hbk⟩ := hs
  have c0 : w.cell? ⟨s, 0, none⟩ = some (.map (some m)) := cell_of hsb 0
  have c1 : w.cell? ⟨s, 1, none⟩ = some (.int .i64 len) := cell_of hsb 1
  have c2 : w.cell? ⟨s, 2, none⟩ = some (.iface 104 (.pointer (some c))) := cell_of hsb 2
  have hsl : s < w.heap.size := (Array.getElem?_eq_some_iff.1 hsb).1
  have HLK := Lib.hid (show ∀ w', MapAt w' m (T.map fun x => (x.1, x.2.1)) → (Instr.lookup 129 (.map (some m)) (.int .i64 (hsh k f)) false).run Try.prog w' = .ok (bval T (hsh k f)) w' from fun w' hm' => by
    have h1 := run_lookup_int (P := Try.prog) Try.underlying129 Try.underlying3 hm' (hsh k f) _ (zero73 w')
    rwa [bval_look] at h1)
  have hbo := bval_own (hsh k f) hown
  have hbl := hbk (hsh k f)
  have hfl : (kn.filter (hashIs (hsh k f))).length ≤ 1000 := Nat.le_trans (List.length_filter_le _ _) hm
  have hff := find_filter kn k f
  generalize hbs : kn.filter (hashIs (hsh k f)) = bl at *
  have HAK := Lib.hid (show AllK w bl from fun x hx => hkn x (by rw [← hbs] at hx; exact (List.mem_filter.1 hx).1))
  have hlnb : (bkt T (hsh k f)).length = bl.length := by rw [hbl]; simp
  obtain ⟨A, c', hv, hrd⟩ := own_slice hbo
  rw [hlnb] at hv hrd
  have hlk := HLK.out w hmap
  rw [hv] at hlk
  have HBV := Lib.hid hv
  have HBO := Lib.hid hbo
  have HBLB := Lib.hid hlnb
  have HBL := Lib.hid hbl
  have HRD := Lib.hid hrd
  have HP := Lib.hid hp
  have HW := Lib.hid hw
  have HFF := Lib.hid (show fstK kn k f = (bl.find? (treeIs k f)).map (·.1) by unfold fstK; rw [hff])
  have HSB := Lib.hid hsb
  have HMAP := Lib.hid hmap
  have HOWN := Lib.hid hown
  have HAP := Lib.hid hap
  have HBK := Lib.hid hbk
  have q1 := method_hash1
  have q2 := method_equals2
  clear hsb hmap hown hbk hbo hbl hff hbs hkn hp hw hv hrd hap hlnb
  generalize hH : hsh k f = H at *
  have HH := Lib.hid hH
  clear hH
  go_enter Try.func73, Try.ntmps73
  go_wp2_with fail
  have h1c := hash1_any c _ _ _ _ w HP.out
  rw [HH.out] at h1c
  refine h1c.mono ?_
  clear h1c
  rintro e w' ⟨rfl, rfl⟩
  go_wp2_with fail
  go_loopw [22] (fun i wr => ∃ j : Nat, j ≤ bl.length ∧ i = .int .i64 j ∧ Hid (∀ i, i < j → ∀ x, bl[i]? = some x → treeIs k f x = false) ∧ Hid (Dr w wr)) (fun i _ => bl.length - (intOf i).toNat)
  case atStart => exact ⟨0, Nat.zero_le _, rfl, Lib.hid (fun i hi => absurd hi (by omega)), Lib.hid (Dr.refl _)⟩
  case round =>
    obtain ⟨j, hj, rfl, HN, HD⟩ := hrel
    have c2' : wr.cell? ⟨s, 2, none⟩ = some (.iface 104 (.pointer (some c))) := cell_bel c2 HD.out.below
    by_cases hlt : j < bl.length
    · have hbj := List.getElem?_eq_getElem hlt
      obtain ⟨b, off, u, rfl, _, hu, hc⟩ := (HRD.out.ext HD.out.below).at1 hlt
      obtain ⟨y, hy, rfl⟩ := ptrs_at hu
      rw [HBL.out, List.getElem?_map, hbj] at hy
      simp only [Option.map_some, Option.some.injEq] at hy
      have hak := HAK.out _ (List.getElem_mem hlt)
      generalize bl[j] = x at *
      obtain ⟨q, k1, f1⟩ := x
      simp only at hy hak
      subst hy
      have HBJ := Lib.hid hbj
      have HE := Lib.hid (equals2_any c f k f1 k1 p q wr (HP.out.stay HD.out.stay) (hak.1.stay HD.out.stay) HW.out hak.2)
      clear hbj hu hak
      go_wp2_with fail
      refine HE.out.mono ?_
      rintro e w' ⟨rfl, hd⟩
      have HD' := Lib.hid (HD.out.trans hd)
      clear hd
      by_cases heq : k = k1 ∧ f = f1
      · have HX := Lib.hid (show treeIs k f (q, k1, f1) = true from decide_eq_true (by rw [heq.1, heq.2]))
        rw [eqB_true heq]
        clear heq
        have HF := Lib.hid (show fstK kn k f = some q by rw [HFF.out, find_at HN.out HBJ.out HX.out]; rfl)
        go_wp2_with fail
        go_ret2
        have hB : B ≤ w.heap.size := by omega
        exact ⟨_, _, rfl, by unfold knAdd; rw [HF.out]; exact HJS.out.dr HD'.out, HD'.out.below.mono hB⟩
      · have HX := Lib.hid (show treeIs k f (q, k1, f1) = false from decide_eq_false (fun e => heq (by cases e; exact ⟨rfl, rfl⟩)))
        rw [eqB_false heq]
        clear heq
        go_wp2_with fail
        go_roundw
        case rel => exact ⟨j + 1, by omega, by go_num, Lib.hid (fun i hi x hx => by
          rcases Nat.lt_or_ge i j with h1 | h1
          · exact HN.out i h1 x hx
          · obtain rfl : i = j := by omega
            rw [HBJ.out] at hx; cases hx; exact HX.out), HD'⟩
        case measure => simp [intOf]; omega
    · have HF := Lib.hid (show fstK kn k f = none by rw [HFF.out, find_no (fun i hi => HN.out i (by omega))]; rfl)
      have c0' : wr.cell? ⟨s, 0, none⟩ = some (.map (some m)) := cell_bel c0 HD.out.below
      have c1' : wr.cell? ⟨s, 1, none⟩ = some (.int .i64 len) := cell_bel c1 HD.out.below
      have hheap := HD.out.heap
      have HSB' := Lib.hid (show wr.heap[s]? = some (.cells #[.map (some m), .int .i64 len, .iface 104 (.pointer (some c))] 131 (0, 0)) by rw [hheap]; exact HSB.out)
      have HMAP' := Lib.hid (show MapAt wr m (T.map fun x => (x.1, x.2.1)) by obtain ⟨n, hn⟩ := HD.out; rw [hn]; exact HMAP.out)
      have HOWN' := Lib.hid (show BOwn wr B T by obtain ⟨n, hn⟩ := HD.out; rw [hn]; exact HOWN.out)
      have HBO' := Lib.hid (show wr.ownsRow B 72 1 (.slice A bl.length c') bl.length (ptrs (bkt T H)) by
        obtain ⟨n, hn⟩ := HD.out; rw [hn, ← HBV.out, ← HBLB.out]; exact HBO.out)
      have hms : some m ≠ (Value.slice A bl.length c').ownBlock := own_map_ne HBO'.out HMAP'.out
      have hss : some s ≠ (Value.slice A bl.length c').ownBlock := own_cells_ne HBO'.out HSB'.out (by decide)
      have hsl' : s < wr.heap.size := (Array.getElem?_eq_some_iff.1 HSB'.out).1
      have HSS := Lib.hid hss
      have HMS := Lib.hid hms
      have HBV' := Lib.hid HBV.out
      clear hheap hms hss
      go_wp2_with fail
      refine wp_region_sch (fun w' => wr.grownBy w' (Value.slice A bl.length c').ownBlock) (.take 0 <| .take 1 <| .take 2 <| .take 3 <| .take 4 <| .take 5 <| .take 6 <| .take 7 <| .take 8 <| .take 9 <| .take 10 <| .take 11 <| .step 12 <| .step 13 <| .step 14 .done) (by kernel_rfl) (by kernel_rfl) (grown_of_bel (below_drew' (Below.refl _ _))) ?_
      repeat
        apply Along.take rfl rfl
        · intro w' hw'
          have x0 := (hw'.cell c0' HSS.out)
          have x1 := HLK.out w' (HMAP'.out.grown hw' HMS.out)
          rw [HBV.out] at x1
          go_simp
          with_reducible rfl
        try simp only [Act.put, List.getElem_toArray, List.getElem_cons_succ, List.getElem_cons_zero, List.setIfInBounds_toArray, List.set_cons_zero, List.set_cons_succ]
      refine Along.step rfl rfl (fun K hK => ?_)
      go_simp
      have hX := below_alloc' (below_drew' (Below.refl _ wr)) (Obj.cells #[Value.pointer (some p)] 72)
      refine hK _ _ (grown_of_bel hX) ?_
      clear hK
      try simp only [Act.put, List.getElem_toArray, List.getElem_cons_succ, List.getElem_cons_zero, List.setIfInBounds_toArray, List.set_cons_zero, List.set_cons_succ]
      refine Along.step rfl rfl (fun K hK => ?_)
      refine wp_append_any _ (.tmp 45) (.tmp 47) 73 rfl B 72 i0 _ 1 8 Try.underlying73 hi0 hz0 hz1 hz2 rfl (by omega) (.slice A bl.length c') bl.length (ptrs (bkt T H)) rfl (ownsRow_ext HBO'.out hX) _ _ 1 1 _ rfl (reads_new (by simp) rfl) (by simp [Value.oneCell']) (by simp only [maxLen]; omega) (by omega) (Nat.le_trans (by omega) hX.size) ?_
      intro v3 w3 hown3 hgr hat
      obtain ⟨A3, c3, rfl, _⟩ := own_slice hown3
      have hgr' := grown_grown (grown_of_bel hX) hgr
      have HG3 := Lib.hid hgr'
      have HM3 := HMAP'.out.grown hgr' HMS.out
      obtain ⟨w4, hrun, hm4, hg4, hsz4⟩ := run_mapUpdate_int (P := Try.prog) Try.underlying129 Try.underlying3 HM3 H (.slice A3 (bl.length + 1) c3)
      have hs3 : w3.heap[s]? = some (.cells #[.map (some m), .int .i64 len, .iface 104 (.pointer (some c))] 131 (0, 0)) := (hgr'.block s hsl' HSS.out).trans HSB'.out
      have hsm : s ≠ m := by
        intro e
        obtain ⟨es, cl, h1, _⟩ := HM3
        rw [← e, hs3] at h1; cases h1
      have hs4 : w4.heap[s]? = some (.cells #[.map (some m), .int .i64 len, .iface 104 (.pointer (some c))] 131 (0, 0)) := (hg4.block s (Array.getElem?_eq_some_iff.1 hs3).1 (fun e => hsm (Option.some.inj e))).trans hs3
      have d1 : w4.cell? ⟨s, 1, none⟩ = some (.int .i64 len) := cell_of hs4 1
      have d2 : w4.frozen? ⟨s, 1, none⟩ = false := by simp [World.frozen?, hs4]
      have hlim : len ≤ 1000 := by omega
      refine hK _ _ hgr' ?_
      clear hK
      try simp only [Act.put, List.getElem_toArray, List.getElem_cons_succ, List.getElem_cons_zero, List.setIfInBounds_toArray, List.set_cons_zero, List.set_cons_succ]
      have HFIN := Lib.hid (store_done (f := f) (k := k) (p := p) HH.out HD.out hBs hBm hlen0 hlen1 HOWN'.out HAP.out HBK.out (by rw [HBV.out]; exact HBO'.out) HBLB.out hsl' (by rw [HBV.out]; exact hgr') (by rw [HBV.out]; exact hat.imp id (fun e => ⟨_, e, by simp⟩)) hown3 hm4 hg4 hs4 HM3 hsm)
      clear hgr hat hown3 hm4 hg4 hs4 hs3 HM3 hgr'
      refine Along.last (by kernel_rfl) rfl rfl rfl (fun K hK => ?_)
      go_simp
      refine hK _ _ ?_
      clear hK
      refine Along.done ?_
      go_wp2_with fail
      go_ret2
      unfold knAdd
      rw [HF.out]
      exact ⟨_, _, rfl, HFIN.out.1, HFIN.out.2⟩
end Go.Proofs.Ytcbabfndfikejaa
