/- The walk of laws.stacks: the stacks of the last choice of a table. Condition: the table is good, has some nodes, and at most 200. -/
import Derived.Test.YtcbabfndfikejaaQ2
import Derived.Test.YtcbabfndfikejaaQ3
namespace Go.Proofs.Ytcbabfndfikejaa
open Go.RowKit
set_option linter.unusedSimpArgs false

theorem OwnStk.weak {w : World} {base base' : Nat} {v : Value} {L : List (List Int)} (h : OwnStk w base v L) (hb : base' ≤ base) : OwnStk w base' v L := by
  obtain ⟨us, ⟨h1, h2⟩, h3⟩ := h
  refine ⟨us, ⟨h1, ?_⟩, h3⟩
  rcases h2 with h | ⟨g, cap, cur, hv, hbg, hr⟩
  · exact .inl h
  · exact .inr ⟨g, cap, cur, hv, by omega, hr⟩
set_option maxRecDepth 20000 in
set_option maxHeartbeats 4000000 in
theorem lawStacks_any (A : Option Addr) (c : Nat) (ms : List Nd) (w : World) (ht : Tbl w w.heap.size A ms) (hg : TG ms) (h0 : 0 < ms.length) (h2 : ms.length ≤ 200) :
    Calls Try.prog 27 #[.slice A ms.length c] w (StkPost (tr ms (ms.length - 1)).2 w) := by
  have HT0 := Lib.hid ht
  have HG := Lib.hid hg
  clear ht hg
  have hz : ((ms.length : Int) == 0) = false := by rw [beq_eq_false_iff_ne]; omega
  have hz2 : ¬ (200 : Int) < (ms.length : Int) := by omega
  go_enter Try.func27, Try.ntmps27
  go_wp2_with fail
  refine (lawsNodes_tbl A c ms w HT0.out (by omega)).mono ?_
  rintro e w1 ⟨A1, c1, rfl, ht1, hb1⟩
  have HT := Lib.hid ht1
  have HB1 := Lib.hid hb1
  clear ht1 hb1
  go_wp2_with fail
  go_loopw [21] (fun i wr => ∃ k : Nat, k ≤ ms.length ∧ i = .int .i64 k ∧ Hid (Below w1.heap.size w1 wr)) (fun i _ => ms.length - (intOf i).toNat)
  case atStart => exact ⟨0, Nat.zero_le _, rfl, Lib.hid (Below.refl _ _)⟩
  case round =>
    obtain ⟨k, hk, rfl, HB⟩ := hrel
    by_cases hlt : k < ms.length
    · obtain ⟨nd, hnd⟩ : ∃ nd, ms[k]? = some nd := ⟨_, List.getElem?_eq_getElem hlt⟩
      obtain ⟨b, off, Ap, cp, As, cs, rfl, hbb, cu, cv, rp, rs⟩ := (HT.out.ext HB.out).at_ hnd
      obtain ⟨hpl, hsl, hpar, hasc⟩ := HG.out k nd hnd
      rw [hpl] at cu rp
      have HRP := Lib.hid rp
      have HRS := Lib.hid rs
      have HPL := Lib.hid hpl
      have HPAR := Lib.hid hpar
      have HASC := Lib.hid hasc
      clear hnd rp rs hpar hasc hpl
      have hwr : wr.heap.size ≤ wr.heap.size := Nat.le_refl _
      obtain ⟨V, hV⟩ : ∃ V, wr.alloc (Obj.cells #[Value.slice Ap nd.ss.length cp, Value.slice As nd.ss.length cs] 32) = V := ⟨_, rfl⟩
      have hbV : Below wr.heap.size wr V := by rw [← hV]; exact below_alloc' (Below.refl _ _) _
      obtain ⟨gn, hgn⟩ : ∃ gn, wr.heap.size = gn := ⟨_, rfl⟩
      have x0 : V.cell? ⟨gn, 0, none⟩ = some (.slice Ap nd.ss.length cp) := by rw [← hV, ← hgn]; simp [World.cell?_alloc_new]
      have x1 : V.cell? ⟨gn, 1, none⟩ = some (.slice As nd.ss.length cs) := by rw [← hV, ← hgn]; simp [World.cell?_alloc_new]
      have HBV := Lib.hid (below_trans' HB.out HB.out.size hbV)
      have HRPV := Lib.hid (HRP.out.ext hbV)
      have HRSV := Lib.hid (HRS.out.ext hbV)
      clear hbV
      go_wp2_with fail
      go_loopw [36] (fun i wq => ∃ m n : Nat, m ≤ nd.ss.length ∧ i = .int .i64 m ∧ wq = V.drewN n) (fun i _ => nd.ss.length - (intOf i).toNat)
      case atStart => exact ⟨0, 0, Nat.zero_le _, rfl, rfl⟩
      case round =>
        obtain ⟨m, n, hm, rfl, rfl⟩ := hrel
        clear hV hgn
        by_cases hml : m < nd.ss.length
        · obtain ⟨q, hq, hqk⟩ := HPAR.out m hml
          obtain ⟨b1, off1, u1, rfl, hb1, hu1, hc1⟩ := HRPV.out.at1 hml
          obtain ⟨q', hq', rfl⟩ := ints_at hu1
          rw [hq] at hq'
          cases hq'
          have g1 : ¬ (k : Int) ≤ (q : Int) := by omega
          have g2 : ¬ (q : Int) < 0 := by omega
          have hmi : (m : Int) < (nd.ss.length : Int) := by omega
          by_cases hm0 : m = 0
          · subst hm0
            simp only [Nat.add_zero] at hc1
            clear hu1 hq
            go_wp2_with fail
            refine wp_region_order (fun w' => w' = (V.drewN n).drew) [0, 1, 2, 3, 4, 5, 6, 7, 8, 9, 10, 11, 12, 13, 14, 15, 16, 17, 18, 19, 20, 21, 22, 23, 24] [] (by kernel_rfl) (by kernel_rfl) rfl ?_
            (repeat
              first
              | (apply TakesThen.cons rfl
                 · go_simp; done
                 · intro w' hw'
                   subst hw'
                   go_simp
                   with_reducible rfl
                 try simp only [Act.put, List.getElem_toArray, List.getElem_cons_succ, List.getElem_cons_zero, List.setIfInBounds_toArray, List.set_cons_zero, List.set_cons_succ])
              | (apply TakesThen.pass rfl
                 · go_simp; done
                 try simp only [Act.put, List.getElem_toArray, List.getElem_cons_succ, List.getElem_cons_zero, List.setIfInBounds_toArray, List.set_cons_zero, List.set_cons_succ]))
            refine TakesThen.nil (Chain.nil ?_)
            go_wp2_with fail
            exact ⟨⟨1, n + 1, by omega, rfl, rfl⟩, by simp [intOf]; omega⟩
          · obtain ⟨r, rfl⟩ : ∃ r, m = r + 1 := ⟨m - 1, by omega⟩
            obtain ⟨b2, off2, u2, rfl, hb2, hu2, hc2⟩ := HRSV.out.at1 hml
            obtain ⟨s, hs, rfl⟩ := ints_at hu2
            obtain ⟨b3, off3, u3, e3, hb3, hu3, hc3⟩ := HRSV.out.at1 (k := r) (by omega)
            cases e3
            obtain ⟨s0, hs0, rfl⟩ := ints_at hu3
            have g3 : ¬ s ≤ s0 := by have := HASC.out r s0 s hs0 hs; omega
            clear hu1 hq hu2 hs hu3 hs0
            have g4 : (0 : Int) < ((r + 1 : Nat) : Int) := by omega
            have g5 : IntKind.i64.wrap (((r + 1 : Nat) : Int) - 1) = (r : Int) := by rw [IntKind.wrap_i64]; omega
            have g6 : (r : Int) < (nd.ss.length : Int) := by omega
            have g7 : (r : Int) + 1 < (nd.ss.length : Int) := by omega
            have g8 : (0 : Int) ≤ (r : Int) + 1 := by omega
            have g9 : ((r : Int) + 1).toNat = r + 1 := by omega
            have g10 : (0 : Int) < (r : Int) + 1 := by omega
            have g11 : IntKind.i64.wrap ((r : Int) + 1 - 1) = (r : Int) := by rw [IntKind.wrap_i64]; omega
            have g12 : IntKind.i64.wrap (r : Int) = (r : Int) := by rw [IntKind.wrap_i64]; omega
            go_wp2_with fail
            refine wp_region_order (fun w' => w' = (V.drewN n).drew) [0, 1, 2, 3, 4, 5, 6, 7, 8, 9, 10, 11, 12, 13, 14, 15, 16, 17, 18, 19, 20, 21, 22, 23, 24] [] (by kernel_rfl) (by kernel_rfl) rfl ?_
            (repeat
              first
              | (apply TakesThen.cons rfl
                 · go_simp; done
                 · intro w' hw'
                   subst hw'
                   go_simp
                   with_reducible rfl
                 try simp only [Act.put, List.getElem_toArray, List.getElem_cons_succ, List.getElem_cons_zero, List.setIfInBounds_toArray, List.set_cons_zero, List.set_cons_succ])
              | (apply TakesThen.pass rfl
                 · go_simp; done
                 try simp only [Act.put, List.getElem_toArray, List.getElem_cons_succ, List.getElem_cons_zero, List.setIfInBounds_toArray, List.set_cons_zero, List.set_cons_succ]))
            refine TakesThen.nil (Chain.nil ?_)
            go_wp2_with fail
            exact ⟨⟨r + 1 + 1, n + 1, by omega, rfl, rfl⟩, by simp only [intOf]; omega⟩
        · have hmn : m = nd.ss.length := by omega
          subst hmn
          go_wp2_with fail
          go_roundw
          case rel => exact ⟨k + 1, by omega, by go_num, Lib.hid (HBV.out.trans (((Dr.refl V).drewN n).below.mono HBV.out.size))⟩
          case measure => simp [intOf]; omega
    · have hkn : k = ms.length := by omega
      subst hkn
      obtain ⟨q, hq⟩ : ∃ q, ms.length = q + 1 := ⟨ms.length - 1, by omega⟩
      have HC := Lib.hid (stacks_any q ms A1 c1 wr (HG.out.tab (by omega)) (HT.out.ext HB.out) (by omega))
      have hsub : IntKind.i64.wrap ((ms.length : Int) - 1) = (q : Int) := by rw [IntKind.wrap_i64]; omega
      have HQE : Hid (ms.length - 1 = q) := Lib.hid (by omega)
      clear hq
      go_wp2_with fail
      refine HC.out.mono ?_
      rintro e w3 ⟨v3, L3, rfl, hL3, hown3, hb3⟩
      obtain ⟨A3, c3, rfl, hst3⟩ := hown3.stks
      have HFIN := Lib.hid (show StkPost (tr ms q).2 w (.returned (.tuple #[.slice A3 L3.length c3, .bool (decide ((stkOf (tr ms q).2).length ≤ 120))])) w3 from ⟨_, L3, rfl, hL3, hown3.weak (Nat.le_trans HB1.out.size HB.out.size), below_trans (below_trans HB1.out HB.out) hb3⟩)
      clear hL3 hown3 hst3 hb3 HC
      go_wp2_with fail
      go_returns
      rw [HQE.out]
      exact HFIN.out
end Go.Proofs.Ytcbabfndfikejaa
