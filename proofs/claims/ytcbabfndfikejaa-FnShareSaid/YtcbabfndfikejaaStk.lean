/- The walk of spec.Stacks: the stacks of the choice that a node stands for; told to be too many just if there are more than 120. Condition: the table's parents stand ahead. -/
import Derived.Test.YtcbabfndfikejaaEqu
import Derived.Test.YtcbabfndfikejaaMrg
import Derived.Handy
namespace Go.Proofs.Ytcbabfndfikejaa
open Go.RowKit
set_option linter.unusedSimpArgs false

/-! ### lists of stacks in memory -/
def Rows2 (w : World) (us : List Value) (L : List (List Int)) : Prop := us.length = L.length ∧ ∀ (j : Nat) u, us[j]? = some u → ∃ l A c, L[j]? = some l ∧ u = .slice A l.length c ∧ Row w NoX 3 A l.length (ints l)
/-- A list of stacks reads. -/
def Stks (w : World) (A : Option Addr) (L : List (List Int)) : Prop := ∃ us, Reads w w.heap.size 1 A L.length us ∧ Rows2 w us L
theorem Rows2.stay {w w' : World} {us : List Value} {L : List (List Int)} (h : Rows2 w us L) (hs : Stay w w') : Rows2 w' us L :=
  ⟨h.1, fun j u hu => by
    obtain ⟨l, A, c, h1, h2, h3⟩ := h.2 j u hu
    exact ⟨l, A, c, h1, h2, h3.stay hs (.inr (.inr rfl))⟩⟩
theorem Rows2.snoc {w : World} {us : List Value} {L : List (List Int)} (h : Rows2 w us L) {l : List Int} {A : Option Addr} {c : Nat} (hr : Row w NoX 3 A l.length (ints l)) : Rows2 w (us ++ [.slice A l.length c]) (L ++ [l]) := by
  refine ⟨by simp [h.1], fun j u hu => ?_⟩
  rcases Nat.lt_or_ge j us.length with hlt | hge
  · rw [List.getElem?_append_left hlt] at hu
    obtain ⟨l', A', c', h1, h2, h3⟩ := h.2 j u hu
    exact ⟨l', A', c', by rw [List.getElem?_append_left (by rw [← h.1]; exact hlt)]; exact h1, h2, h3⟩
  · rw [List.getElem?_append_right hge] at hu
    have hj : j = us.length := by
      rcases Nat.eq_zero_or_pos (j - us.length) with h0 | h0
      · omega
      · rw [List.getElem?_eq_none (by simp; omega)] at hu; cases hu
    subst hj
    simp at hu
    subst hu
    exact ⟨l, A, c, by rw [h.1]; simp, rfl, hr⟩
theorem Stks.ext {w w' : World} {A : Option Addr} {L : List (List Int)} (h : Stks w A L) (hb : Below w.heap.size w w') : Stks w' A L := by
  obtain ⟨us, h1, h2⟩ := h
  exact ⟨us, h1.ext hb, h2.stay (Stay.of_below hb)⟩
theorem Stks.nil_ {w : World} : Stks w none [] := ⟨[], Reads.none_, rfl, fun j u hu => by simp at hu⟩
/-- Stack j of a list. -/
theorem Stks.at_ {w : World} {A : Option Addr} {L : List (List Int)} (h : Stks w A L) {j : Nat} {l : List Int} (hj : L[j]? = some l) :
    ∃ b off A' c, A = some ⟨b, off, none⟩ ∧ w.cell? ⟨b, off + j, none⟩ = some (.slice A' l.length c) ∧ Row w NoX 3 A' l.length (ints l) := by
  obtain ⟨us, h1, h2⟩ := h
  have hlt : j < L.length := (List.getElem?_eq_some_iff.1 hj).1
  obtain ⟨b, off, u, hA, _, hu, hc⟩ := h1.at1 hlt
  obtain ⟨l', A', c, h3, h4, h5⟩ := h2.2 j u hu
  rw [hj] at h3
  cases h3
  exact ⟨b, off, A', c, hA, by rw [← h4]; exact hc, h5⟩
/-- Blocks that choices are made of stay while a row of another type grows. -/
theorem Stay.grown_own {a b : World} {base n size : Nat} {e : TypeId} {v : Value} {xs : List Value} (hg : a.grownBy b v.ownBlock) (ho : a.ownsRow base e size v n xs) (he : ¬ ctxTy e) : Stay a b := by
  refine ⟨hg.size, fun g cs t ht hgt => ?_⟩
  rw [hg.block g (Array.getElem?_eq_some_iff.1 hgt).1 (fun hv => ?_)]
  · exact hgt
  · rcases ho.2 with ⟨rfl, _⟩ | ⟨g', cap, cur, rfl, _, hh, _⟩
    · simp [Value.ownBlock] at hv
    · simp only [Value.ownBlock, Option.some.injEq] at hv
      subst hv
      rw [hgt] at hh
      injection hh with hh
      injection hh with _ ht'
      rw [ht'] at ht
      exact he ht

/-! ### stacks, top by top -/
def topStk (x : Int × Nat × Tops) : List (List Int) := (stkOf x.2.2).map (x.1 :: ·)
/-- the stacks of the first k tops -/
def stkPre (f : Tops) (k : Nat) : List (List Int) := ((f.list.take k).map topStk).flatten
theorem stk_flat : ∀ f : Tops, f.stk = (f.list.map topStk).flatten
  | .nil => rfl
  | .cons s k a r => by rw [stk_cons, stk_flat r]; rfl
theorem list_at : ∀ (f : Tops) (j : Nat), f.list[j]? = f.at? j
  | .nil, _ => rfl
  | .cons .., 0 => rfl
  | .cons _ _ _ r, j + 1 => by simp only [Tops.list, List.getElem?_cons_succ, Tops.at?]; exact list_at r j
theorem stkPre_succ {f : Tops} {k : Nat} {x : Int × Nat × Tops} (h : f.at? k = some x) : stkPre f (k + 1) = stkPre f k ++ topStk x := by
  rw [← list_at] at h
  unfold stkPre
  rw [take_snoc' _ _ _ h, List.map_append, List.flatten_append]
  simp
theorem stkPre_all (f : Tops) : stkPre f f.len = f.stk := by
  unfold stkPre
  rw [← Tops.list_length f, List.take_length, stk_flat]
theorem stkPre_le (f : Tops) (k : Nat) : (stkPre f k).length ≤ f.stk.length := by
  unfold stkPre
  rw [stk_flat]
  conv => rhs; rw [← List.take_append_drop k f.list]
  rw [List.map_append, List.flatten_append, List.length_append]
  omega
theorem topStk_len (x : Int × Nat × Tops) : (topStk x).length = (stkOf x.2.2).length := by simp [topStk]

theorem mem_stk_at : ∀ {f : Tops} {t : List Int}, t ∈ f.stk → ∃ j s k a t', f.at? j = some (s, k, a) ∧ t = s :: t' ∧ t' ∈ stkOf a
  | .nil, t, h => by cases h
  | .cons s k a r, t, h => by
    rw [stk_cons] at h
    rcases List.mem_append.1 h with h | h
    · obtain ⟨t', h1, rfl⟩ := List.mem_map.1 h
      exact ⟨0, s, k, a, t', rfl, rfl, h1⟩
    · obtain ⟨j, s', k', a', t', h1, h2, h3⟩ := mem_stk_at (f := r) h
      exact ⟨j + 1, s', k', a', t', h1, h2, h3⟩
theorem stk_depth {ns : List Nd} (ho : TabOk ns) : ∀ (n a : Nat), a < n → a < ns.length → ∀ t ∈ stkOf (tr ns a).2, t.length ≤ a
  | 0, _, h, _, _, _ => absurd h (by omega)
  | n + 1, a, han, ha, t, ht => by
    have hna := List.getElem?_eq_getElem ha
    generalize ns[a] = nd at *
    obtain ⟨hpl, hsl, hpar⟩ := ho.2 a nd hna
    rw [tr_eq ho hna] at ht
    simp only at ht
    cases hn : (mkTops (built ns) nd.ps nd.ss).isNil
    · rw [stkOf_len _ hn] at ht
      obtain ⟨j, s, k, sub, t', h1, rfl, h2⟩ := mem_stk_at ht
      have hjl : j < nd.ss.length := by
        rw [← mkTops_len (built ns) nd.ps nd.ss hpl, ← Tops.list_length]
        rw [← list_at] at h1
        exact (List.getElem?_eq_some_iff.1 h1).1
      obtain ⟨p, hp, hpa⟩ := hpar j hjl
      rw [mkTops_at hp (List.getElem?_eq_getElem hjl)] at h1
      cases h1
      have := stk_depth ho n p (by omega) (by omega) t' h2
      simp only [List.length_cons]
      omega
    · rw [Tops.isNil_eq hn, stkOf_nil] at ht
      simp at ht
      subst ht
      exact Nat.zero_le _
/-- A list of stacks of the call's own. -/
def OwnStk (w : World) (base : Nat) (v : Value) (L : List (List Int)) : Prop := ∃ us, w.ownsRow base 22 1 v L.length us ∧ Rows2 w us L
theorem OwnStk.ext {w w' : World} {base : Nat} {v : Value} {L : List (List Int)} (h : OwnStk w base v L) (hb : Below w.heap.size w w') : OwnStk w' base v L := by
  obtain ⟨us, h1, h2⟩ := h
  exact ⟨us, ownsRow_ext h1 hb, h2.stay (Stay.of_below hb)⟩
theorem OwnStk.stks {w : World} {base : Nat} {v : Value} {L : List (List Int)} (h : OwnStk w base v L) : ∃ A c, v = .slice A L.length c ∧ Stks w A L := by
  obtain ⟨us, h1, h2⟩ := h
  obtain ⟨A, c, rfl, hr⟩ := own_slice h1
  exact ⟨A, c, rfl, us, hr, h2⟩
theorem OwnStk.nil_ (w : World) (base : Nat) : OwnStk w base (.slice none 0 0) [] := ⟨[], World.ownsRow_nil _ _ _ _, rfl, fun j u hu => by simp at hu⟩
def StkPost (f : Tops) (w : World) (e : Ending) (w' : World) : Prop := ∃ v L, e = .returned (.tuple #[v, .bool (decide ((stkOf f).length ≤ 120))]) ∧ (L = if (stkOf f).length ≤ 120 then stkOf f else []) ∧ OwnStk w' w.heap.size v L ∧ Below w.heap.size w w'
def StkTo (n : Nat) : Prop := ∀ (a : Nat) (ns : List Nd) (A : Option Addr) (c : Nat) (w : World), a < n → TabOk ns → Tbl w w.heap.size A ns → a < ns.length →
  Calls Try.prog 28 #[.slice A ns.length c, .int .i64 a] w (StkPost (tr ns a).2 w)
theorem info22 : (Try.prog.info? 22).map (fun i => (i.zero, i.size, i.bytes)) = some (some (.slice none 0 0), 1, 24) := by kernel_rfl

set_option maxRecDepth 20000 in
set_option maxHeartbeats 4000000 in
theorem stacks_step (n : Nat) (IH : StkTo n) : StkTo (n + 1) := by
  intro a ns A c w han ho ht ha
  have hna := List.getElem?_eq_getElem ha
  obtain ⟨b1, off1, Ap, cp, As, cs, rfl, hb1, cu1, cv1, rp, rs⟩ := ht.at_ hna
  generalize ns[a] = nd at *
  obtain ⟨i0, hi0, hz0, hz1, hz2⟩ := info_parts info22
  obtain ⟨j0, hj0, hy0, hy1, hy2⟩ := info_parts int_info
  have hnl := ho.1
  have HI := Lib.hid IH
  have HO := Lib.hid ho
  have HT := Lib.hid ht
  have HNA := Lib.hid hna
  obtain ⟨hpl, hsl, hpar⟩ := ho.2 a nd hna
  rw [hpl] at cu1 rp
  have HRP := Lib.hid rp
  have HRS := Lib.hid rs
  have HTR := Lib.hid (tr_eq ho hna)
  have HPAR := Lib.hid hpar
  have hlenf : (mkTops (built ns) nd.ps nd.ss).len = nd.ss.length := mkTops_len _ _ _ hpl
  clear IH ho ht hna rp rs hpar hpl
  have HF : Hid ((tr ns a).2 = mkTops (built ns) nd.ps nd.ss) := Lib.hid (by rw [HTR.out])
  rw [HF.out]
  have HAT : Hid (∀ (j p : Nat) (s : Int), nd.ps[j]? = some (p : Int) → nd.ss[j]? = some s → (mkTops (built ns) nd.ps nd.ss).at? j = some (s, tr ns p)) := Lib.hid (fun j p s h1 h2 => mkTops_at h1 h2)
  generalize mkTops (built ns) nd.ps nd.ss = f at *
  by_cases h0 : nd.ss.length = 0
  · have hf : f = .nil := Tops.isNil_eq ((Tops.isNil_len f).2 (by omega))
    subst hf
    have h0' : ((nd.ss.length : Int) == 0) = true := by rw [beq_iff_eq]; omega
    go_enter Try.func28, Try.ntmps28
    go_wp2_with fail
    go_returns
    refine ⟨_, [[]], rfl, rfl, ⟨[.slice (some ⟨w.heap.size + 1, 0, none⟩) 0 0], ?_, rfl, fun j u hu => ?_⟩, ?_⟩
    · have := World.ownsRow_lit (base := w.heap.size) (e := 22) (size := 1) ((w.alloc (Obj.cells #[Value.slice Ap 0 cp, Value.slice As 0 cs] 32)).alloc (Obj.cells #[] 3)) #[.slice (some ⟨w.heap.size + 1, 0, none⟩) 0 0] 1 (by simp; omega) (by simp [maxLen]) rfl
      simpa using this
    · have hj : j = 0 := by
        rcases Nat.eq_zero_or_pos j with h | h
        · exact h
        · rw [List.getElem?_eq_none (by simp; omega)] at hu; cases hu
      subst hj
      simp at hu
      subst hu
      exact ⟨[], _, _, rfl, rfl, rfl, fun h => absurd h (by simp)⟩
    · exact below_alloc' (below_alloc' (below_alloc' (Below.refl _ _) _) _) _
  · have h0' : ((nd.ss.length : Int) == 0) = false := by rw [beq_eq_false_iff_ne]; omega
    have hfn : f.isNil = false := Tops.notNil (by omega)
    have HSO := Lib.hid (stkOf_len f hfn)
    go_enter Try.func28, Try.ntmps28
    go_wp2_with fail
    obtain ⟨W1, hW1⟩ : ∃ W1 : World, W1 = (w.alloc (Obj.cells #[Value.slice Ap nd.ss.length cp, Value.slice As nd.ss.length cs] 32)).alloc (Obj.cells #[] 22) := ⟨_, rfl⟩
    have hb0 : Below w.heap.size w W1 := by rw [hW1]; exact below_alloc' (below_alloc' (Below.refl _ _) _) _
    obtain ⟨gx, hgx⟩ : ∃ gx, gx = w.heap.size := ⟨_, rfl⟩
    have x0 : W1.cell? ⟨gx, 0, none⟩ = some (.slice Ap nd.ss.length cp) := by rw [hW1, hgx]; exact cell_alloc (by simp [World.cell?_alloc_new]) _
    have hown0 : W1.ownsRow (w.heap.size + 1) 22 1 (.slice (some ⟨w.heap.size + 1, 0, none⟩) 0 0) 0 [] := by
      have := World.ownsRow_lit (base := w.heap.size + 1) (e := 22) (size := 1) (w.alloc (Obj.cells #[Value.slice Ap nd.ss.length cp, Value.slice As nd.ss.length cs] 32)) #[] 0 (by simp) (by simp [maxLen]) rfl
      rw [hW1]
      simpa using this
    rw [← hW1]
    rw [← hgx] at hown0 hb0 ⊢
    have HO0 := Lib.hid (show OwnStk W1 (gx + 1) (.slice (some ⟨gx + 1, 0, none⟩) 0 0) (stkPre f 0) from ⟨[], hown0, rfl, fun j u hu => by simp at hu⟩)
    have HB0 := Lib.hid hb0
    have hgl : gx < W1.heap.size := by rw [hW1, hgx]; simp; omega
    have HGX := Lib.hid hgx
    clear hW1 hown0 hb0 hgx
    go_loopw [7, 28] (fun o i wr => ∃ k : Nat, k ≤ nd.ss.length ∧ i = .int .i64 k ∧ (stkPre f k).length ≤ 120 ∧ Hid (OwnStk wr (gx + 1) o (stkPre f k)) ∧ Hid (Below gx w wr) ∧ wr.cell? ⟨gx, 0, none⟩ = some (.slice Ap nd.ss.length cp) ∧ gx < wr.heap.size) (fun _ i _ => nd.ss.length - (intOf i).toNat)
    case atStart => exact ⟨0, Nat.zero_le _, rfl, by simp [stkPre], HO0, HB0, x0, hgl⟩
    case round =>
      clear HO0 HB0 x0 hgl
      obtain ⟨k, hk, rfl, hle, HOW, HBW, x0, hgl⟩ := hrel
      by_cases hlt : k < nd.ss.length
      · obtain ⟨p, hp, hpa⟩ := HPAR.out k hlt
        obtain ⟨s, hs⟩ : ∃ s, nd.ss[k]? = some s := ⟨_, List.getElem?_eq_getElem hlt⟩
        have HSUC := Lib.hid (stkPre_succ (HAT.out k p s hp hs))
        have HPL := Lib.hid (stkPre_le f (k + 1))
        have hbw : Below w.heap.size w wr := by rw [← HGX.out]; exact HBW.out
        obtain ⟨bs, offs, us, rfl, _, hus, hcs⟩ := (HRS.out.ext hbw).at1 hlt
        obtain ⟨bp, offp, up, rfl, _, hup, hcp⟩ := (HRP.out.ext hbw).at1 hlt
        obtain ⟨s', hs', rfl⟩ := ints_at hus
        obtain ⟨p', hp', rfl⟩ := ints_at hup
        rw [hs] at hs'
        rw [hp] at hp'
        cases hs'
        cases hp'
        have hpn : p < ns.length := by omega
        have HC := Lib.hid (HI.out p ns _ c wr (by omega) HO.out (HT.out.ext hbw) hpn)
        have HDEP := Lib.hid (stk_depth HO.out (p + 1) p (by omega) hpn)
        clear hp hs hbw hus hup
        go_wp2_with fail
        refine HC.out.mono ?_
        rintro e w2 ⟨v2, L2, rfl, hL2, hown2, hb2⟩
        generalize hsub : tr ns p = sub at *
        have HB2 := Lib.hid (HBW.out.trans (hb2.mono (by omega)))
        have HOW2 := Lib.hid (HOW.out.ext hb2)
        have x2 := cell_bel x0 hb2
        have hs2 := hb2.size
        by_cases hok : (stkOf sub.2).length ≤ 120
        · have hok' : decide ((stkOf sub.2).length ≤ 120) = true := decide_eq_true hok
          rw [if_pos hok] at hL2
          rw [hok']
          obtain ⟨A2, c2, rfl, hst⟩ := hown2.stks
          have HL2 := Lib.hid hL2
          have HST := Lib.hid hst
          have HOWN2 := Lib.hid hown2
          have hL2' := Lib.hid hL2
          have hne0 : Hid ((Value.slice A2 L2.length c2).ownBlock = none ∨ (Value.slice A2 L2.length c2).ownBlock ≠ u7.ownBlock) := Lib.hid (by
            obtain ⟨us2, h1, _⟩ := hown2
            obtain ⟨us1, h2, _⟩ := HOW.out
            cases hv : (Value.slice A2 L2.length c2).ownBlock with
            | none => exact .inl rfl
            | some g =>
              right
              intro he
              have l1 := (h1.lt g hv).1
              have l2 := (h2.lt g he.symm).2
              omega)
          clear hL2 hst hown2 hb2 HOW HBW x0
          obtain ⟨zr, hzr⟩ : ∃ zr, zr = wr.heap.size := ⟨_, rfl⟩
          rw [← hzr] at HOWN2
          clear hzr
          have hL2l : L2.length ≤ 120 := by rw [HL2.out]; exact hok
          go_wp2_with fail
          go_loopw [7, 47] (fun o i wr => ∃ m : Nat, m ≤ L2.length ∧ i = .int .i64 m ∧ Hid (OwnStk wr (gx + 1) o (stkPre f k ++ (L2.take m).map (s :: ·))) ∧ Hid (Below gx w wr) ∧ Hid (OwnStk wr zr (.slice A2 L2.length c2) L2) ∧
            Hid ((Value.slice A2 L2.length c2).ownBlock = none ∨ (Value.slice A2 L2.length c2).ownBlock ≠ o.ownBlock) ∧ wr.cell? ⟨gx, 0, none⟩ = some (.slice (some ⟨bp, offp, none⟩) nd.ss.length cp) ∧ gx < wr.heap.size ∧ w2.heap.size ≤ wr.heap.size) (fun _ i _ => L2.length - (intOf i).toNat)
          case atStart => exact ⟨0, Nat.zero_le _, rfl, by simpa using HOW2, HB2, HOWN2, hne0, x2, by omega, Nat.le_refl _⟩
          case round =>
            clear HOW2 HB2 HOWN2 hne0 x2 HST
            obtain ⟨m, hm, rfl, HO3, HB3, HL3, HNE, x3, hgl3, hsz3⟩ := hrel
            by_cases hlt2 : m < L2.length
            · obtain ⟨l, hl⟩ : ∃ l, L2[m]? = some l := ⟨_, List.getElem?_eq_getElem hlt2⟩
              obtain ⟨A9, c9, e9, hst9⟩ := HL3.out.stks
              cases e9
              obtain ⟨b9, off9, A', c', rfl, hcell, hrow⟩ := hst9.at_ hl
              have HROW := Lib.hid hrow
              have HTK := Lib.hid (take_snoc' _ _ _ hl)
              have hll : l.length ≤ 1000 := by
                have h1 := HDEP.out l (by rw [hL2'.out] at hl; exact List.mem_of_getElem? hl)
                omega
              obtain ⟨us3, ho3, hr3⟩ := HO3.out
              have HOO := Lib.hid ho3
              have HRR := Lib.hid hr3
              have hlen3 : (stkPre f k ++ (L2.take m).map (s :: ·)).length ≤ 240 := by simp; omega
              clear hrow hl hst9 ho3 hr3
              generalize hP3 : stkPre f k ++ (L2.take m).map (s :: ·) = P3 at *
              have HP3 := Lib.hid hP3
              clear hP3
              go_wp2_with (first
                | (at_builtin
                   (refine wpList_append_bel rfl (.tmp 53) (.tmp 54) _ rfl wr wr.heap.size 3 j0 _ 1 8 Try.underlying22 hj0 hy0 hy1 hy2 rfl (by omega) _ 1 [.int .i64 s] rfl (World.ownsRow_lit wr _ 1 (Nat.le_refl _) (by simp [maxLen]) rfl) _ A' l.length c' (ints l) rfl ((Row.reads HROW.out).ext ((Below.refl _ _).alloc (Nat.le_refl _) _)) (ints_one l) (by omega) (by omega) ((Below.refl _ _).alloc (Nat.le_refl _) _) (by simp) ?_)
                   intro v4 w4 hown4 hb4 _ _
                   obtain ⟨A4, c4, rfl, hr4⟩ := own_slice hown4)
                | (at_builtin
                   (refine wpList_append_bel rfl (.tmp 51) (.tmp 56) _ rfl (w4.alloc (Obj.cells #[.slice A4 (1 + l.length) c4] 22)) (gx + 1) 22 i0 _ 1 24 Try.underlying42 hi0 hz0 hz1 hz2 rfl (by omega) _ P3.length us3 rfl ((ownsRow_ext HOO.out hb4).alloc _) _ _ 1 1 _ rfl (reads_new (by simp) rfl) (by intro u hu; simp at hu; subst hu; rfl) (by omega) (by omega) (Below.refl _ _) (by have := hb4.size; simp; omega) ?_)
                   intro v5 w5 hown5 hb5 hg5 hob5))
              have hs4 := hb4.size
              have HP4 : Hid (stkPre f k ++ (L2.take (m + 1)).map (s :: ·) = P3 ++ [s :: l]) := Lib.hid (by rw [HTK.out, List.map_append, ← List.append_assoc, HP3.out]; rfl)
              have HO4 : (w4.alloc (Obj.cells #[.slice A4 (1 + l.length) c4] 22)).ownsRow (gx + 1) 22 1 u7 P3.length us3 := (ownsRow_ext HOO.out hb4).alloc _
              have hst4 : Stay wr (w4.alloc (Obj.cells #[.slice A4 (1 + l.length) c4] 22)) := (Stay.of_below hb4).alloc _
              have hst5 : Stay (w4.alloc (Obj.cells #[.slice A4 (1 + l.length) c4] 22)) w5 := Stay.grown_own hg5 HO4 (by unfold ctxTy; decide)
              have HNEW : Hid (OwnStk w5 (gx + 1) v5 (P3 ++ [s :: l])) := Lib.hid (by
                refine ⟨us3 ++ [.slice A4 (1 + l.length) c4], by rw [List.length_append]; exact hown5, ?_⟩
                have hr := Rows2.snoc (HRR.out.stay (hst4.trans hst5)) (l := s :: l) (A := A4) (c := c4) (by
                  have h1 : Row w4 NoX 3 A4 (1 + l.length) (ints (s :: l)) := Row.of_own hown4 (fun _ _ h => h)
                  rw [List.length_cons, Nat.add_comm]
                  exact h1.stay (((Stay.refl w4).alloc _).trans hst5) (.inr (.inr rfl)))
                rw [List.length_cons, Nat.add_comm] at hr
                exact hr)
              have HB5 : Hid (Below gx w w5) := Lib.hid (((HB3.out.trans (hb4.mono (by omega))).alloc (by omega) _).trans (hb5.mono (by omega)))
              have HL5 : Hid (OwnStk w5 zr (.slice (some ⟨b9, off9, none⟩) L2.length c2) L2) := Lib.hid (by
                obtain ⟨us2, h1, h2⟩ := HL3.out
                exact ⟨us2, World.ownsRow.kept ((ownsRow_ext h1 hb4).alloc _) hg5 HNE.out, h2.stay (hst4.trans hst5)⟩)
              have HNE5 : Hid ((Value.slice (some ⟨b9, off9, none⟩) L2.length c2).ownBlock = none ∨ (Value.slice (some ⟨b9, off9, none⟩) L2.length c2).ownBlock ≠ v5.ownBlock) := Lib.hid (by
                rcases hob5 with h | h
                · rw [h]; exact HNE.out
                · rw [h]
                  right
                  intro he
                  obtain ⟨us2, h1, _⟩ := HL3.out
                  have := (h1.lt _ he).2
                  simp at this
                  omega)
              have x5 : w5.cell? ⟨gx, 0, none⟩ = some (.slice (some ⟨bp, offp, none⟩) nd.ss.length cp) := (hb5.cell (by simp)).trans (cell_alloc (cell_bel x3 hb4) _)
              have hs5 := hb5.size
              simp at hs5
              clear HO4 hst4 hst5 hown5 hown4 hb4 hb5 hg5 hob5 hr4
              rw [← HP4.out] at HNEW
              exact ⟨⟨m + 1, by omega, by go_num, HNEW, HB5, HL5, HNE5, x5, by omega, by omega⟩, by simp [intOf]; omega⟩
            · have hmn : m = L2.length := by omega
              subst hmn
              rw [List.take_length] at HO3
              have HP4 : Hid (stkPre f k ++ L2.map (s :: ·) = stkPre f (k + 1)) := Lib.hid (by rw [HSUC.out, hL2'.out]; rfl)
              rw [HP4.out] at HO3
              clear HL3 HNE
              by_cases hle2 : (stkPre f (k + 1)).length ≤ 120
              · obtain ⟨us3, ho3, hr3⟩ := HO3.out
                obtain ⟨A9, c9, rfl, _⟩ := own_slice ho3
                have hle2' : ¬ (120 : Int) < ((stkPre f (k + 1)).length : Int) := by omega
                clear ho3 hr3
                go_wp2_with fail
                go_roundw
                case rel => exact ⟨k + 1, by omega, by go_num, hle2, HO3, HB3, x3, by omega⟩
                case measure => simp [intOf]; omega
              · obtain ⟨us3, ho3, hr3⟩ := HO3.out
                obtain ⟨A9, c9, rfl, _⟩ := own_slice ho3
                have hle2' : (120 : Int) < ((stkPre f (k + 1)).length : Int) := by omega
                have hno : ¬ (stkOf f).length ≤ 120 := by
                  have h1 := HPL.out
                  rw [HSO.out]
                  omega
                clear ho3 hr3
                go_wp2_with fail
                go_returns
                refine ⟨.slice none 0 0, [], by rw [decide_eq_false hno]; rfl, by rw [if_neg hno], OwnStk.nil_ _ _, by rw [← HGX.out]; exact HB3.out⟩
        · have hok' : decide ((stkOf sub.2).length ≤ 120) = false := decide_eq_false hok
          rw [hok']
          have hno : ¬ (stkOf f).length ≤ 120 := by
            have h1 := HPL.out
            rw [HSUC.out, List.length_append, topStk_len] at h1
            rw [HSO.out]
            simp only at h1
            omega
          clear hL2 hown2
          go_wp2_with fail
          go_returns
          refine ⟨.slice none 0 0, [], by rw [decide_eq_false hno]; rfl, by rw [if_neg hno], OwnStk.nil_ _ _, by rw [← HGX.out]; exact HB2.out⟩
      · have hkn : k = f.len := by omega
        have hyes : (stkOf f).length ≤ 120 := by rw [HSO.out, ← stkPre_all, ← hkn]; exact hle
        go_wp2_with fail
        go_returns
        obtain ⟨us, h1, h2⟩ := HOW.out
        refine ⟨_, stkPre f k, by rw [decide_eq_true hyes]; rfl, by rw [if_pos hyes, HSO.out, ← stkPre_all, hkn], ⟨us, ⟨h1.1, ?_⟩, h2⟩, by rw [← HGX.out]; exact HBW.out⟩
        rcases h1.2 with h | ⟨g, cap, cur, hv, hbg, hr⟩
        · exact .inl h
        · exact .inr ⟨g, cap, cur, hv, by have := HGX.out; omega, hr⟩
theorem stacks_all (n : Nat) : StkTo n := by
  induction n with
  | zero => intro a ns A c w h; exact absurd h (by omega)
  | succ n ih => exact stacks_step n ih
/-- STACKS -/
theorem stacks_any (a : Nat) (ns : List Nd) (A : Option Addr) (c : Nat) (w : World) (ho : TabOk ns) (ht : Tbl w w.heap.size A ns) (ha : a < ns.length) :
    Calls Try.prog 28 #[.slice A ns.length c, .int .i64 a] w (StkPost (tr ns a).2 w) := stacks_all (a + 1) a ns A c w (Nat.lt_succ_self a) ho ht ha
end Go.Proofs.Ytcbabfndfikejaa
