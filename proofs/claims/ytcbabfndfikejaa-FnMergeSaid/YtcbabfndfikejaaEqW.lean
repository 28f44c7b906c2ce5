/- The walks of Equals and what it calls. Condition: the choices lie in memory and are well made. -/
import Derived.Test.YtcbabfndfikejaaEq
namespace Go.Proofs.Ytcbabfndfikejaa
open Go.RowKit
set_option linter.unusedSimpArgs false

def eqB (k : Nat) (f : Tops) (k' : Nat) (f' : Tops) : Bool := decide (k = k' ∧ f = f')
theorem eqB_true {k k' : Nat} {f f' : Tops} (h : k = k' ∧ f = f') : eqB k f k' f' = true := decide_eq_true h
theorem eqB_false {k k' : Nat} {f f' : Tops} (h : ¬ (k = k' ∧ f = f')) : eqB k f k' f' = false := decide_eq_false h
theorem assert72 (w : World) (v : Value) : (Instr.typeAssert (.iface 72 v) 99 72 false).run Try.prog w = .ok v w := by
  simp [Instr.typeAssert, run_underlying Try.underlying72]
/-- Equals, up to a size -/
def EqTo (n : Nat) : Prop := ∀ (f : Tops) (k : Nat) (f' : Tops) (k' : Nat) (p q : Addr) (w : World), f.size < n → Rep w NoX p k f → Rep w NoX q k' f' → Wf k f → Wf k' f' →
  Calls Try.prog 52 #[.pointer (some p), .iface 72 (.pointer (some q))] w (EqPost (eqB k f k' f') w)

set_option maxHeartbeats 1000000 in
theorem pcSliceEqual_any (n : Nat) (IH : EqTo n) (A A' : Option Addr) (c c' : Nat) (f f' : Tops) (qs qs' : List Addr) (w : World) (hsz : f.size ≤ n) (hl : f.len = f'.len) (h0 : 0 < f.len) (hm : f.len ≤ 1000) (hss : f.sts = f'.sts) (hw : f.wf) (hw' : f'.wf)
    (h : Row w NoX 72 A f.len (ptrs qs)) (h' : Row w NoX 72 A' f.len (ptrs qs')) (hs : Subs w NoX f qs) (hs' : Subs w NoX f' qs') :
    Calls Try.prog 93 #[.slice A f.len c, .slice A' f.len c'] w (EqPost (decide (f = f')) w) := by
  obtain ⟨b, off, u, rfl, _, _, _⟩ := h.reads.at1 h0
  obtain ⟨b', off', u', rfl, _, _, _⟩ := h'.reads.at1 h0
  have H := Lib.hid h
  have H' := Lib.hid h'
  have HS := Lib.hid hs
  have HS' := Lib.hid hs'
  have HL := Lib.hid hl
  have HSS := Lib.hid hss
  have HW := Lib.hid hw
  have HW' := Lib.hid hw'
  have HI := Lib.hid IH
  clear h h' hs hs' hl hss hw hw' IH
  have q1 := eqlNil73
  have hn1 : ((f.len : Int) == 0) = false := by rw [beq_eq_false_iff_ne]; omega
  have hne : ((f.len : Int) != (f.len : Int)) = false := by rw [bne_eq_false_iff_eq]
  generalize hln : f.len = ln at *
  have HLN := Lib.hid hln
  clear hln
  go_enter Try.func93, Try.ntmps93
  go_wp2_with fail
  go_loopw [44] (fun i wr => ∃ k : Nat, k ≤ ln ∧ i = .int .i64 k ∧ Hid (∀ j, j < k → f.at? j = f'.at? j) ∧ Hid (Dr w wr)) (fun i _ => ln - (intOf i).toNat)
  case atStart => exact ⟨0, Nat.zero_le _, rfl, Lib.hid (fun j hj => absurd hj (by omega)), Lib.hid (Dr.refl _)⟩
  case round =>
    obtain ⟨k, hk, rfl, HT, HD⟩ := hrel
    by_cases hlt : k < ln
    · obtain ⟨b1, off1, u1, e1, _, hu1, hc1⟩ := ((H.out.stay HD.out.stay (.inr (.inl rfl))).reads).at1 hlt
      obtain ⟨b2, off2, u2, e2, _, hu2, hc2⟩ := ((H'.out.stay HD.out.stay (.inr (.inl rfl))).reads).at1 hlt
      cases e1; cases e2
      obtain ⟨x, hx, rfl⟩ := ptrs_at hu1
      obtain ⟨y, hy, rfl⟩ := ptrs_at hu2
      obtain ⟨s, k1, sub, ha, hr⟩ := Subs.at_ f qs k x HS.out hx
      obtain ⟨s', k1', sub', ha', hr'⟩ := Subs.at_ f' qs' k y HS'.out hy
      have HR := Lib.hid (hr.stay HD.out.stay)
      have HR' := Lib.hid (hr'.stay HD.out.stay)
      have HA := Lib.hid ha
      have HA' := Lib.hid ha'
      have HEQ := Lib.hid (HI.out sub k1 sub' k1' x y wr (by have := Tops.at_size ha; omega) HR.out HR'.out (Tops.at_wf HW.out ha) (Tops.at_wf HW'.out ha'))
      have HST := Lib.hid (show s = s' by
        have e1 := (Tops.at_hs _ _ _ _ _ ha).2
        have e2 := (Tops.at_hs _ _ _ _ _ ha').2
        rw [HSS.out, e2] at e1; cases e1; rfl)
      clear hu1 hu2 hx hy ha ha' hr hr'
      go_wp2_with fail
      refine HEQ.out.mono ?_
      rintro e w' ⟨rfl, hd⟩
      have HD' := Lib.hid (HD.out.trans hd)
      clear hd
      by_cases hxy : k1 = k1' ∧ sub = sub'
      · have HN := Lib.hid (show eqB k1 sub k1' sub' = true from eqB_true hxy)
        have HX := Lib.hid hxy
        clear hxy
        rw [HN.out]
        go_wp2_with fail
        go_roundw
        case rel => exact ⟨k + 1, by omega, by go_num, Lib.hid (fun j hj => by
          rcases Nat.lt_or_ge j k with h1 | h1
          · exact HT.out j h1
          · obtain rfl : j = k := by omega
            rw [HA.out, HA'.out, HST.out, HX.out.1, HX.out.2]), HD'⟩
        case measure => simp [intOf]; omega
      · have HN := Lib.hid (show eqB k1 sub k1' sub' = false from eqB_false hxy)
        have HX := Lib.hid (show decide (f = f') = false from decide_eq_false (fun e => hxy (by
          have e1 := HA.out
          rw [e, HA'.out] at e1
          cases e1; exact ⟨rfl, rfl⟩)))
        clear hxy
        rw [HN.out]
        go_wp2_with fail
        go_ret
        exact ⟨by rw [HX.out]; rfl, HD'.out⟩
    · have HX := Lib.hid (show decide (f = f') = true from decide_eq_true (Tops.ext_at (HLN.out.trans HL.out) (fun j hj => HT.out j (by rw [HLN.out] at hj; omega))))
      go_wp2_with fail
      go_ret
      exact ⟨by rw [HX.out]; rfl, HD.out⟩

set_option maxRecDepth 20000 in
set_option maxHeartbeats 2000000 in
theorem singleEquals_any (n : Nat) (IH : EqTo n) (s : Int) (kk : Nat) (sub : Tops) (f' : Tops) (k' : Nat) (p q : Addr) (w : World) (hsz : sub.size < n) (h : Rep w NoX p 1 (.cons s kk sub .nil)) (h' : Rep w NoX q k' f') (hw : Wf kk sub) (hw' : Wf k' f') :
    Calls Try.prog 70 #[.pointer (some p), .iface 72 (.pointer (some q))] w (EqPost (eqB 1 (.cons s kk sub .nil) k' f') w) := by
  obtain ⟨g, s0, q1, k0, sub0, rfl, he, hsub, hg⟩ := h.cells1
  cases he
  have c0 : w.cell? ⟨g, 0, none⟩ = some (.int .i64 (hsh 1 (.cons s kk sub .nil))) := cell_of hg 0
  have c2 : w.cell? ⟨g, 2, none⟩ = some (.pointer (some q1)) := cell_of hg 2
  have c3 : w.cell? ⟨g, 3, none⟩ = some (.int .i64 s) := cell_of hg 3
  have HSUB := Lib.hid hsub
  have HW := Lib.hid hw
  have HI := Lib.hid IH
  clear hg h hw hsub IH
  have qa := assert72
  rcases hw'.1 with ⟨rfl, rfl⟩ | ⟨rfl, hl⟩ | ⟨rfl, hl, hl2⟩
  · obtain ⟨g', rfl, _, hg'⟩ := h'.cells0
    have d1 : w.cell? ⟨g', 1, none⟩ = some (.int .i64 0) := cell_of hg' 1
    clear h' hg' hw'
    go_enter Try.func70, Try.ntmps70
    go_wp2_with fail
    go_ret
    exact ⟨by rw [eqB_false (by simp)]; rfl, Dr.refl _⟩
  · obtain ⟨g', s', q1', kk', sub', rfl, rfl, hsub', hg'⟩ := h'.cells1
    have d0 : w.cell? ⟨g', 0, none⟩ = some (.int .i64 (hsh 1 (.cons s' kk' sub' .nil))) := cell_of hg' 0
    have d1 : w.cell? ⟨g', 1, none⟩ = some (.int .i64 1) := cell_of hg' 1
    have d2 : w.cell? ⟨g', 2, none⟩ = some (.pointer (some q1')) := cell_of hg' 2
    have d3 : w.cell? ⟨g', 3, none⟩ = some (.int .i64 s') := cell_of hg' 3
    have HR' := Lib.hid h'
    have HSUB' := Lib.hid hsub'
    have HW' := Lib.hid (show Wf kk' sub' from ⟨hw'.2.2.1, hw'.2.2.2.1⟩)
    clear h' hg' hsub' hw' hl
    by_cases hh : hsh 1 (.cons s kk sub .nil) = hsh 1 (.cons s' kk' sub' .nil)
    · have hh' : (hsh 1 (.cons s kk sub .nil) != hsh 1 (.cons s' kk' sub' .nil)) = false := by rw [bne_eq_false_iff_eq]; exact hh
      generalize hsh 1 (.cons s kk sub .nil) = H1 at *
      clear hh
      go_enter Try.func70, Try.ntmps70
      go_wp2_with fail
      go_quiet ((go_at_call 53; exact Calls.quiet_of_same ((Hash_any _ _ _ _ _ (HR'.out.stay (Dr.refl _ |>.drewN _).stay)).mono fun _ _ ⟨a, b⟩ => ⟨a, b.symm⟩)))
      go_wp2_with fail
      obtain ⟨wo, hwo⟩ : ∃ wo : World, wo = w.drewN nq := ⟨_, rfl⟩
      have HD := Lib.hid (show Dr w wo from ⟨nq, hwo⟩)
      have c2 : wo.cell? ⟨g, 2, none⟩ = some (.pointer (some q1)) := by rw [hwo]; exact c2
      have c3 : wo.cell? ⟨g, 3, none⟩ = some (.int .i64 s) := by rw [hwo]; exact c3
      have d2 : wo.cell? ⟨g', 2, none⟩ = some (.pointer (some q1')) := by rw [hwo]; exact d2
      rw [← hwo]
      clear hwo
      by_cases hss : s = s'
      · have hss' : (s != s') = false := by rw [bne_eq_false_iff_eq]; exact hss
        have HSS := Lib.hid hss
        clear hss
        go_quiet ((go_at_call 67; exact Calls.quiet_of_same ((getReturnState1 _ _ _ _ _ _ _ (HR'.out.stay (HD.out.drewN _).stay)).mono fun _ _ ⟨a, b⟩ => ⟨a, b.symm⟩)))
        go_wp2_with fail
        obtain ⟨w2, hw2⟩ : ∃ w2 : World, w2 = wo.drewN nq := ⟨_, rfl⟩
        have HD2 := Lib.hid (show Dr w w2 from HD.out.trans ⟨nq, hw2⟩)
        have c2 : w2.cell? ⟨g, 2, none⟩ = some (.pointer (some q1)) := by rw [hw2]; exact c2
        have d2 : w2.cell? ⟨g', 2, none⟩ = some (.pointer (some q1')) := by rw [hw2]; exact d2
        rw [← hw2]
        clear hw2
        go_wp2_with fail
        go_quiet ((go_at_call 52; exact EqPost.quiet (HI.out sub kk sub' kk' q1 q1' _ hsz (HSUB.out.stay (HD2.out.drewN _).stay) (HSUB'.out.stay (HD2.out.drewN _).stay) HW.out HW'.out)))
        go_wp2_with fail
        go_ret
        refine ⟨?_, HD2.out.drewN _⟩
        have e : eqB kk sub kk' sub' = eqB 1 (.cons s kk sub .nil) 1 (.cons s' kk' sub' .nil) := by
          unfold eqB
          rw [Bool.eq_iff_iff]
          simp [HSS.out]
        rw [← e]; rfl
      · have hss' : (s != s') = true := by rw [bne_iff_ne]; exact hss
        have HN := Lib.hid (show eqB 1 (.cons s kk sub .nil) 1 (.cons s' kk' sub' .nil) = false from eqB_false (fun e => hss (by have := e.2; cases this; rfl)))
        clear hss
        go_quiet ((go_at_call 67; exact Calls.quiet_of_same ((getReturnState1 _ _ _ _ _ _ _ (HR'.out.stay (HD.out.drewN _).stay)).mono fun _ _ ⟨a, b⟩ => ⟨a, b.symm⟩)))
        go_wp2_with fail
        go_ret
        exact ⟨by rw [HN.out]; rfl, HD.out.drewN _⟩
    · have hh' : (hsh 1 (.cons s kk sub .nil) != hsh 1 (.cons s' kk' sub' .nil)) = true := by rw [bne_iff_ne]; exact hh
      have HN := Lib.hid (show eqB 1 (.cons s kk sub .nil) 1 (.cons s' kk' sub' .nil) = false from eqB_false (fun e => hh (by rw [e.2])))
      generalize hsh 1 (.cons s kk sub .nil) = H1 at *
      clear hh
      go_enter Try.func70, Try.ntmps70
      go_wp2_with fail
      go_quiet ((go_at_call 53; exact Calls.quiet_of_same ((Hash_any _ _ _ _ _ (HR'.out.stay (Dr.refl _ |>.drewN _).stay)).mono fun _ _ ⟨a, b⟩ => ⟨a, b.symm⟩)))
      go_wp2_with fail
      go_ret
      exact ⟨by rw [HN.out]; rfl, (Dr.refl _).drewN _⟩
  · obtain ⟨g', A, c, A', c', qs, rfl, _, _, _, hg', _, _⟩ := h'.cells2
    have d1 : w.cell? ⟨g', 1, none⟩ = some (.int .i64 2) := cell_of hg' 1
    clear h' hg' hw'
    go_enter Try.func70, Try.ntmps70
    go_wp2_with fail
    go_ret
    exact ⟨by rw [eqB_false (by simp)]; rfl, Dr.refl _⟩

set_option maxRecDepth 20000 in
set_option maxHeartbeats 2000000 in
theorem arrayEquals_any (n : Nat) (IH : EqTo n) (f : Tops) (f' : Tops) (k' : Nat) (p q : Addr) (w : World) (hsz : f.size ≤ n) (h : Rep w NoX p 2 f) (h' : Rep w NoX q k' f') (hw : Wf 2 f) (hw' : Wf k' f') :
    Calls Try.prog 71 #[.pointer (some p), .iface 72 (.pointer (some q))] w (EqPost (eqB 2 f k' f') w) := by
  obtain ⟨g, A, c, Ai, ci, qs, rfl, _, hql, hsub, hg, hr1, hr2⟩ := h.cells2
  have c0 : w.cell? ⟨g, 0, none⟩ = some (.int .i64 (hsh 2 f)) := cell_of hg 0
  have c4 : w.cell? ⟨g, 4, none⟩ = some (.slice A f.len c) := cell_of hg 4
  have c5 : w.cell? ⟨g, 5, none⟩ = some (.slice Ai f.len ci) := cell_of hg 5
  obtain ⟨hl, hl2⟩ : 0 < f.len ∧ f.len ≤ 1000 := by
    rcases hw.1 with ⟨h1, _⟩ | ⟨h1, _⟩ | ⟨_, h1, h2⟩
    · cases h1
    · cases h1
    · exact ⟨h1, h2⟩
  have HSUB := Lib.hid hsub
  have HR1 := Lib.hid hr1
  have HR2 := Lib.hid hr2
  have HW := Lib.hid hw.2
  have HI := Lib.hid IH
  clear hg h hw hsub IH hr1 hr2
  have qa := assert72
  rcases hw'.1 with ⟨rfl, rfl⟩ | ⟨rfl, hl'⟩ | ⟨rfl, hl', hl2'⟩
  · obtain ⟨g', rfl, _, hg'⟩ := h'.cells0
    have d1 : w.cell? ⟨g', 1, none⟩ = some (.int .i64 0) := cell_of hg' 1
    clear h' hg' hw'
    go_enter Try.func71, Try.ntmps71
    go_wp2_with fail
    go_ret
    exact ⟨by rw [eqB_false (by simp)]; rfl, Dr.refl _⟩
  · obtain ⟨g', s', q1', kk', sub', rfl, rfl, hsub', hg'⟩ := h'.cells1
    have d1 : w.cell? ⟨g', 1, none⟩ = some (.int .i64 1) := cell_of hg' 1
    clear h' hg' hw' hl' hsub'
    go_enter Try.func71, Try.ntmps71
    go_wp2_with fail
    go_ret
    exact ⟨by rw [eqB_false (by simp)]; rfl, Dr.refl _⟩
  · obtain ⟨g', A', c', Ai', ci', qs', rfl, _, hql', hsub', hg', hr1', hr2'⟩ := h'.cells2
    have d0 : w.cell? ⟨g', 0, none⟩ = some (.int .i64 (hsh 2 f')) := cell_of hg' 0
    have d1 : w.cell? ⟨g', 1, none⟩ = some (.int .i64 2) := cell_of hg' 1
    have d4 : w.cell? ⟨g', 4, none⟩ = some (.slice A' f'.len c') := cell_of hg' 4
    have d5 : w.cell? ⟨g', 5, none⟩ = some (.slice Ai' f'.len ci') := cell_of hg' 5
    have HR' := Lib.hid h'
    have HSUB' := Lib.hid hsub'
    have HR1' := Lib.hid hr1'
    have HR2' := Lib.hid hr2'
    have HW' := Lib.hid hw'.2
    clear h' hg' hsub' hw' hr1' hr2' hql hql'
    have HIS := Lib.hid (show ∀ w', Dr w w' → Calls Try.prog 92 #[.slice Ai f.len ci, .slice Ai' f'.len ci'] w' (BoolPost (decide (f.sts = f'.sts)) w') from fun w' hd => by
      have r1 := (HR2.out.stay hd.stay (.inr (.inr rfl))).reads
      have r2 := (HR2'.out.stay hd.stay (.inr (.inr rfl))).reads
      have e1 := Tops.sts_length f
      have e2 := Tops.sts_length f'
      rw [← e1] at r1
      rw [← e2] at r2
      have := intSlicesEqual_any Ai Ai' ci ci' f.sts f'.sts w' r1 r2 (by omega) (by omega) (by omega) (by omega)
      rwa [e1, e2] at this)
    by_cases hh : hsh 2 f = hsh 2 f'
    · have hh' : (hsh 2 f != hsh 2 f') = false := by rw [bne_eq_false_iff_eq]; exact hh
      generalize hsh 2 f = H1 at *
      clear hh
      by_cases hss : f.sts = f'.sts
      · have hll : f'.len = f.len := by rw [← Tops.sts_length, ← Tops.sts_length, hss]
        have HT := Lib.hid (show decide (f.sts = f'.sts) = true from decide_eq_true hss)
        have HSS := Lib.hid hss
        have HLL := Lib.hid hll
        rw [HT.out, hll] at HIS
        rw [hll] at d4 d5 hl' hl2' HR1' HR2'
        clear hss hll
        go_enter Try.func71, Try.ntmps71
        go_wp2_with fail
        go_quiet ((go_at_call 53; exact Calls.quiet_of_same ((Hash_any _ _ _ _ _ (HR'.out.stay (Dr.refl _ |>.drewN _).stay)).mono fun _ _ ⟨a, b⟩ => ⟨a, b.symm⟩)))
        go_wp2_with fail
        obtain ⟨wo, hwo⟩ : ∃ wo : World, wo = w.drewN nq := ⟨_, rfl⟩
        have HD := Lib.hid (show Dr w wo from ⟨nq, hwo⟩)
        have c4 : wo.cell? ⟨g, 4, none⟩ = some (.slice A f.len c) := by rw [hwo]; exact c4
        have c5 : wo.cell? ⟨g, 5, none⟩ = some (.slice Ai f.len ci) := by rw [hwo]; exact c5
        have d4 : wo.cell? ⟨g', 4, none⟩ = some (.slice A' f.len c') := by rw [hwo]; exact d4
        have d5 : wo.cell? ⟨g', 5, none⟩ = some (.slice Ai' f.len ci') := by rw [hwo]; exact d5
        rw [← hwo]
        clear hwo
        go_quiet ((first
          | (go_at_call 92; exact Calls.quiet_of_same ((HIS.out _ (HD.out.drewN _)).mono fun _ _ ⟨a, b⟩ => ⟨a, b.symm⟩))
          | (go_at_call 93; exact EqPost.quiet (pcSliceEqual_any n HI.out A A' c c' f f' qs qs' _ hsz HLL.out.symm hl hl2 HSS.out HW.out HW'.out (HR1.out.stay (HD.out.drewN _).stay (.inr (.inl rfl))) (HR1'.out.stay (HD.out.drewN _).stay (.inr (.inl rfl))) (HSUB.out.stay (HD.out.drewN _).stay) (HSUB'.out.stay (HD.out.drewN _).stay)))))
        go_wp2_with fail
        go_ret
        refine ⟨?_, HD.out.drewN _⟩
        have e : decide (f = f') = eqB 2 f 2 f' := by simp [eqB]
        rw [← e]; rfl
      · have HT := Lib.hid (show decide (f.sts = f'.sts) = false from decide_eq_false hss)
        have HN := Lib.hid (show eqB 2 f 2 f' = false from eqB_false (fun e => hss (by rw [e.2])))
        rw [HT.out] at HIS
        clear hss
        go_enter Try.func71, Try.ntmps71
        go_wp2_with fail
        go_quiet ((go_at_call 53; exact Calls.quiet_of_same ((Hash_any _ _ _ _ _ (HR'.out.stay (Dr.refl _ |>.drewN _).stay)).mono fun _ _ ⟨a, b⟩ => ⟨a, b.symm⟩)))
        go_wp2_with fail
        obtain ⟨wo, hwo⟩ : ∃ wo : World, wo = w.drewN nq := ⟨_, rfl⟩
        have HD := Lib.hid (show Dr w wo from ⟨nq, hwo⟩)
        have c5 : wo.cell? ⟨g, 5, none⟩ = some (.slice Ai f.len ci) := by rw [hwo]; exact c5
        have d5 : wo.cell? ⟨g', 5, none⟩ = some (.slice Ai' f'.len ci') := by rw [hwo]; exact d5
        rw [← hwo]
        clear hwo
        go_quiet ((go_at_call 92; exact Calls.quiet_of_same ((HIS.out _ (HD.out.drewN _)).mono fun _ _ ⟨a, b⟩ => ⟨a, b.symm⟩)))
        go_wp2_with fail
        go_ret
        exact ⟨by rw [HN.out]; rfl, HD.out.drewN _⟩
    · have hh' : (hsh 2 f != hsh 2 f') = true := by rw [bne_iff_ne]; exact hh
      have HN := Lib.hid (show eqB 2 f 2 f' = false from eqB_false (fun e => hh (by rw [e.2])))
      generalize hsh 2 f = H1 at *
      clear hh
      go_enter Try.func71, Try.ntmps71
      go_wp2_with fail
      go_quiet ((go_at_call 53; exact Calls.quiet_of_same ((Hash_any _ _ _ _ _ (HR'.out.stay (Dr.refl _ |>.drewN _).stay)).mono fun _ _ ⟨a, b⟩ => ⟨a, b.symm⟩)))
      go_wp2_with fail
      go_ret
      exact ⟨by rw [HN.out]; rfl, (Dr.refl _).drewN _⟩

theorem under99 : ∀ w x, (binOp .eql 99 (.iface 72 x) .nilIface).run Try.prog w = .ok (.bool false) w := fun w x => by
  simp [go_sem, Try.underlying99]

set_option maxRecDepth 20000 in
set_option maxHeartbeats 2000000 in
theorem equals_step (n : Nat) (IH : EqTo n) : EqTo (n + 1) := by
  intro f k f' k' p q w hsz h h' hw hw'
  have HI := Lib.hid IH
  have HH := Lib.hid h
  have HH' := Lib.hid h'
  have HW := Lib.hid hw
  have HW' := Lib.hid hw'
  have qa := assert72
  have qn := under99
  obtain ⟨g, _, _, _, _, rfl, _, hg⟩ := h.head
  obtain ⟨g', _, _, _, _, rfl, _, hg'⟩ := h'.head
  have c1 : w.cell? ⟨g, 1, none⟩ = some (.int .i64 k) := cell_of hg 1
  by_cases hgg : g = g'
  · subst hgg
    have HN := Lib.hid (show eqB k f k' f' = true from eqB_true (HH.out.unique HH'.out))
    have q1 := eqI_same w ⟨g, 0, none⟩
    clear h h' hg hg' c1 hw hw' IH
    go_enter Try.func52, Try.ntmps52
    go_wp2_with fail
    go_ret
    exact ⟨by rw [HN.out]; rfl, Dr.refl _⟩
  · have q1 := eqI_other w (a := ⟨g, 0, none⟩) (b := ⟨g', 0, none⟩) (by intro e; cases e; exact hgg rfl) hg hg'
    clear h h' hg hg' hgg IH
    rcases hw.1 with ⟨rfl, rfl⟩ | ⟨rfl, hl⟩ | ⟨rfl, hl, hl2⟩
    · clear hw hw'
      go_enter Try.func52, Try.ntmps52
      go_wp2_with (go_at_call 69; refine (isEmpty_any _ _ _ _ _ HH'.out HW'.out).mono ?_; rintro e w' ⟨rfl, rfl⟩)
      go_ret
      refine ⟨?_, Dr.refl _⟩
      have e : decide (k' = 0) = eqB 0 .nil k' f' := by
        unfold eqB
        rw [Bool.eq_iff_iff]
        simp only [decide_eq_true_eq]
        constructor
        · rintro rfl
          rcases HW'.out.1 with ⟨_, h⟩ | ⟨h, _⟩ | ⟨h, _⟩
          · exact ⟨rfl, h.symm⟩
          · cases h
          · cases h
        · exact fun h => h.1.symm
      rw [← e]; rfl
    · obtain ⟨s, kk, sub, rfl⟩ : ∃ s kk sub, f = .cons s kk sub .nil := by
        cases f with
        | nil => simp [Tops.len] at hl
        | cons s kk sub r => cases r with
          | nil => exact ⟨s, kk, sub, rfl⟩
          | cons => simp [Tops.len] at hl
      have HSZ := Lib.hid (show sub.size < n by simp only [Tops.size] at hsz; omega)
      clear hw hw' hl hsz
      go_enter Try.func52, Try.ntmps52
      go_wp2_with fail
      refine (singleEquals_any n HI.out s kk sub f' k' _ _ w HSZ.out HH.out HH'.out ⟨HW.out.2.2.1, HW.out.2.2.2.1⟩ HW'.out).mono ?_
      rintro e w' ⟨rfl, hd⟩
      have HD := Lib.hid hd
      clear hd
      go_wp2_with fail
      go_ret
      exact ⟨rfl, HD.out⟩
    · have HSZ := Lib.hid (show f.size ≤ n by omega)
      clear hw hw' hl hl2 hsz
      go_enter Try.func52, Try.ntmps52
      go_wp2_with fail
      refine (arrayEquals_any n HI.out f f' k' _ _ w HSZ.out HH.out HH'.out HW.out HW'.out).mono ?_
      rintro e w' ⟨rfl, hd⟩
      have HD := Lib.hid hd
      clear hd
      go_wp2_with fail
      go_ret
      exact ⟨rfl, HD.out⟩
theorem equals_all (n : Nat) : EqTo n := by
  induction n with
  | zero => intro f k f' k' p q w h; omega
  | succ n ih => exact equals_step n ih
/-- EQUALS -/
theorem equals_any (f : Tops) (k : Nat) (f' : Tops) (k' : Nat) (p q : Addr) (w : World) (h : Rep w NoX p k f) (h' : Rep w NoX q k' f') (hw : Wf k f) (hw' : Wf k' f') :
    Calls Try.prog 52 #[.pointer (some p), .iface 72 (.pointer (some q))] w (EqPost (eqB k f k' f') w) := equals_all _ f k f' k' p q w (Nat.lt_succ_self _) h h' hw hw'
end Go.Proofs.Ytcbabfndfikejaa
