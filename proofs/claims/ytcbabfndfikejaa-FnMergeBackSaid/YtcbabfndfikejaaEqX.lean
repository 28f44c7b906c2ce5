/- The equality of what a cache of merges keeps as keys: choices that have tops, and the array of none. Condition: the keys lie in memory. -/
import Derived.Test.YtcbabfndfikejaaStore
namespace Go.Proofs.Ytcbabfndfikejaa
open Go.RowKit
set_option linter.unusedSimpArgs false

/-- The array of none lies at p. -/
def Nil2 (w : World) (p : Addr) : Prop := ∃ g a c a' c', p = ⟨g, 0, none⟩ ∧ w.heap[g]? = some (.cells #[.int .i64 (hsh 2 .nil), .int .i64 2, .pointer none, .int .i64 0, .slice (some a) 0 c, .slice (some a') 0 c'] 97 (0, 0))
/-- A key lies at p. -/
def KO (w : World) (p : Addr) (k : Nat) (f : Tops) : Prop := Rep w NoX p k f ∧ ((Wf k f ∧ k ≠ 0) ∨ (k = 2 ∧ f = .nil ∧ Nil2 w p))
theorem Nil2.stay {w w' : World} {p : Addr} (h : Nil2 w p) (hs : Stay w w') : Nil2 w' p := by
  obtain ⟨g, a, c, a', c', h1, h2⟩ := h
  exact ⟨g, a, c, a', c', h1, hs.2 _ _ _ (.inl rfl) h2⟩
theorem KO.stay {w w' : World} {p : Addr} {k : Nat} {f : Tops} (h : KO w p k f) (hs : Stay w w') : KO w' p k f :=
  ⟨h.1.stay hs, h.2.imp id (fun ⟨h1, h2, h3⟩ => ⟨h1, h2, h3.stay hs⟩)⟩
theorem ints0_any (a a' : Addr) (n n' c c' : Nat) (w : World) (h : n = 0 ∨ n' = 0) : Calls Try.prog 92 #[.slice (some a) n c, .slice (some a') n' c'] w (BoolPost (decide (n = n')) w) := by
  have q1 := eqlNil22
  rcases Nat.eq_zero_or_pos n with h0 | h0
  · subst h0
    rcases Nat.eq_zero_or_pos n' with h1 | h1
    · subst h1
      go_enter Try.func92, Try.ntmps92
      go_wp2_with fail
      go_ret
      exact ⟨rfl, rfl⟩
    · have hn2 : ((n' : Int) == 0) = false := by rw [beq_eq_false_iff_ne]; omega
      have hn3 : ¬ (n' : Int) = 0 := by omega
      have e : decide (0 = n') = false := decide_eq_false (by omega)
      rw [e]
      clear h
      go_enter Try.func92, Try.ntmps92
      go_wp2_with fail
      go_ret
      exact ⟨rfl, rfl⟩
  · have h1 : n' = 0 := by omega
    subst h1
    have hn2 : ((n : Int) == 0) = false := by rw [beq_eq_false_iff_ne]; omega
    have hn3 : ¬ (n : Int) = 0 := by omega
    have e : decide (n = 0) = false := decide_eq_false (by omega)
    rw [e]
    clear h
    go_enter Try.func92, Try.ntmps92
    go_wp2_with fail
    go_ret
    exact ⟨rfl, rfl⟩
theorem pcs0_any (a a' : Addr) (c c' : Nat) (w : World) : Calls Try.prog 93 #[.slice (some a) 0 c, .slice (some a') 0 c'] w (BoolPost true w) := by
  have q1 := eqlNil73
  go_enter Try.func93, Try.ntmps93
  go_wp2_with fail
  go_ret
  exact ⟨rfl, rfl⟩
set_option maxRecDepth 20000 in
set_option maxHeartbeats 2000000 in
/-- arrays, one of which has none -/
theorem arr0_any (g g' n n' c c' ci ci' : Nat) (a a' ai ai' : Addr) (h h' : Int) (w : World) (hn : n = 0 ∨ n' = 0) (hh : n = n' → h = h')
    (hg : w.heap[g]? = some (.cells #[.int .i64 h, .int .i64 2, .pointer none, .int .i64 0, .slice (some a) n c, .slice (some ai) n ci] 97 (0, 0)))
    (hg' : w.heap[g']? = some (.cells #[.int .i64 h', .int .i64 2, .pointer none, .int .i64 0, .slice (some a') n' c', .slice (some ai') n' ci'] 97 (0, 0)))
    (hr : ∀ m, Calls Try.prog 53 #[.pointer (some ⟨g', 0, none⟩)] (w.drewN m) (IntPost h' (w.drewN m))) :
    Calls Try.prog 71 #[.pointer (some ⟨g, 0, none⟩), .iface 72 (.pointer (some ⟨g', 0, none⟩))] w (EqPost (decide (n = n')) w) := by
  have c0 : w.cell? ⟨g, 0, none⟩ = some (.int .i64 h) := cell_of hg 0
  have c4 : w.cell? ⟨g, 4, none⟩ = some (.slice (some a) n c) := cell_of hg 4
  have c5 : w.cell? ⟨g, 5, none⟩ = some (.slice (some ai) n ci) := cell_of hg 5
  have d0 : w.cell? ⟨g', 0, none⟩ = some (.int .i64 h') := cell_of hg' 0
  have d1 : w.cell? ⟨g', 1, none⟩ = some (.int .i64 2) := cell_of hg' 1
  have d4 : w.cell? ⟨g', 4, none⟩ = some (.slice (some a') n' c') := cell_of hg' 4
  have d5 : w.cell? ⟨g', 5, none⟩ = some (.slice (some ai') n' ci') := cell_of hg' 5
  have qa := assert72
  have HR := Lib.hid hr
  clear hr hg hg'
  by_cases hhh : h = h'
  · have hh' : (h != h') = false := by rw [bne_eq_false_iff_eq]; exact hhh
    subst hhh
    by_cases hnn : n = n'
    · have hn0 : n = 0 := by omega
      subst hnn
      subst hn0
      clear hn hh
      go_enter Try.func71, Try.ntmps71
      go_wp2_with fail
      go_quiet ((go_at_call 53; exact Calls.quiet_of_same ((HR.out _).mono fun _ _ ⟨a, b⟩ => ⟨a, b.symm⟩)))
      go_wp2_with fail
      obtain ⟨wo, hwo⟩ : ∃ wo : World, wo = w.drewN nq := ⟨_, rfl⟩
      have HD := Lib.hid (show Dr w wo from ⟨nq, hwo⟩)
      have c4 : wo.cell? ⟨g, 4, none⟩ = some (.slice (some a) 0 c) := by rw [hwo]; exact c4
      have c5 : wo.cell? ⟨g, 5, none⟩ = some (.slice (some ai) 0 ci) := by rw [hwo]; exact c5
      have d4 : wo.cell? ⟨g', 4, none⟩ = some (.slice (some a') 0 c') := by rw [hwo]; exact d4
      have d5 : wo.cell? ⟨g', 5, none⟩ = some (.slice (some ai') 0 ci') := by rw [hwo]; exact d5
      rw [← hwo]
      clear hwo
      go_quiet ((first
        | (go_at_call 92; exact Calls.quiet_of_same ((ints0_any ai ai' 0 0 ci ci' _ (.inl rfl)).mono fun _ _ ⟨a, b⟩ => ⟨a, b.symm⟩))
        | (go_at_call 93; exact Calls.quiet_of_same ((pcs0_any a a' c c' _).mono fun _ _ ⟨a, b⟩ => ⟨a, b.symm⟩))))
      go_wp2_with fail
      go_ret
      exact ⟨rfl, HD.out.drewN _⟩
    · have HN := Lib.hid (decide_eq_false hnn)
      have HI := Lib.hid (show ∀ w, Calls Try.prog 92 #[.slice (some ai) n ci, .slice (some ai') n' ci'] w (BoolPost false w) from fun w => by
        have := ints0_any ai ai' n n' ci ci' w hn
        rwa [HN.out] at this)
      clear hn hh hnn
      rw [HN.out]
      go_enter Try.func71, Try.ntmps71
      go_wp2_with fail
      go_quiet ((go_at_call 53; exact Calls.quiet_of_same ((HR.out _).mono fun _ _ ⟨a, b⟩ => ⟨a, b.symm⟩)))
      go_wp2_with fail
      obtain ⟨wo, hwo⟩ : ∃ wo : World, wo = w.drewN nq := ⟨_, rfl⟩
      have HD := Lib.hid (show Dr w wo from ⟨nq, hwo⟩)
      have c4 : wo.cell? ⟨g, 4, none⟩ = some (.slice (some a) n c) := by rw [hwo]; exact c4
      have c5 : wo.cell? ⟨g, 5, none⟩ = some (.slice (some ai) n ci) := by rw [hwo]; exact c5
      have d4 : wo.cell? ⟨g', 4, none⟩ = some (.slice (some a') n' c') := by rw [hwo]; exact d4
      have d5 : wo.cell? ⟨g', 5, none⟩ = some (.slice (some ai') n' ci') := by rw [hwo]; exact d5
      rw [← hwo]
      clear hwo
      go_quiet ((go_at_call 92; exact Calls.quiet_of_same ((HI.out _).mono fun _ _ ⟨a, b⟩ => ⟨a, b.symm⟩)))
      go_wp2_with fail
      go_ret
      exact ⟨rfl, HD.out.drewN _⟩
  · have hh' : (h != h') = true := by rw [bne_iff_ne]; exact hhh
    have HN := Lib.hid (show decide (n = n') = false from decide_eq_false (fun e => hhh (hh e)))
    clear hn hh hhh
    rw [HN.out]
    go_enter Try.func71, Try.ntmps71
    go_wp2_with fail
    go_quiet ((go_at_call 53; exact Calls.quiet_of_same ((HR.out _).mono fun _ _ ⟨a, b⟩ => ⟨a, b.symm⟩)))
    go_wp2_with fail
    go_ret
    exact ⟨rfl, (Dr.refl _).drewN _⟩
/-- a choice with one top is no array -/
theorem single0_any (g g' : Nat) (w : World) (d1 : w.cell? ⟨g', 1, none⟩ = some (.int .i64 2)) :
    Calls Try.prog 70 #[.pointer (some ⟨g, 0, none⟩), .iface 72 (.pointer (some ⟨g', 0, none⟩))] w (EqPost false w) := by
  have qa := assert72
  go_enter Try.func70, Try.ntmps70
  go_wp2_with fail
  go_ret
  exact ⟨rfl, Dr.refl _⟩
set_option maxHeartbeats 2000000 in
theorem equalsK_any (k k' : Nat) (f f' : Tops) (p q : Addr) (w : World) (h : KO w p k f) (h' : KO w q k' f') : Calls Try.prog 52 #[.pointer (some p), .iface 72 (.pointer (some q))] w (EqPost (eqB k f k' f') w) := by
  obtain ⟨hr, hk⟩ := h
  obtain ⟨hr', hk'⟩ := h'
  by_cases hb : (Wf k f ∧ k ≠ 0) ∧ (Wf k' f' ∧ k' ≠ 0)
  · exact equals_any f k f' k' p q w hr hr' hb.1.1 hb.2.1
  have HR := Lib.hid hr
  have HR' := Lib.hid hr'
  have qa := assert72
  have qn := under99
  obtain ⟨g, _, _, _, _, rfl, _, hg⟩ := hr.head
  obtain ⟨g', _, _, _, _, rfl, _, hg'⟩ := hr'.head
  have c1 : w.cell? ⟨g, 1, none⟩ = some (.int .i64 k) := cell_of hg 1
  have d1 : w.cell? ⟨g', 1, none⟩ = some (.int .i64 k') := cell_of hg' 1
  by_cases hgg : g = g'
  · subst hgg
    have HN := Lib.hid (show eqB k f k' f' = true from eqB_true (HR.out.unique HR'.out))
    have q1 := eqI_same w ⟨g, 0, none⟩
    clear hr hr' hk hk' hg hg' c1 d1 hb
    go_enter Try.func52, Try.ntmps52
    go_wp2_with fail
    go_ret
    exact ⟨by rw [HN.out]; rfl, Dr.refl _⟩
  have q1 := eqI_other w (a := ⟨g, 0, none⟩) (b := ⟨g', 0, none⟩) (by intro e; cases e; exact hgg rfl) hg hg'
  have hash : ∀ m, Calls Try.prog 53 #[.pointer (some ⟨g', 0, none⟩)] (w.drewN m) (IntPost (hsh k' f') (w.drewN m)) := fun m => Hash_any _ _ _ _ _ (HR'.out.stay ((Dr.refl w).drewN m).stay)
  -- how an array of some lies
  have arr : ∀ {g : Nat} {f : Tops}, Rep w NoX ⟨g, 0, none⟩ 2 f → Wf 2 f → ∃ a c a' c', 0 < f.len ∧ w.heap[g]? = some (.cells #[.int .i64 (hsh 2 f), .int .i64 2, .pointer none, .int .i64 0, .slice (some a) f.len c, .slice (some a') f.len c'] 97 (0, 0)) := by
    intro g f h hw
    obtain ⟨g0, A, c, Ai, ci, qs, e, _, hql, hsub, hg, hr1, hr2⟩ := h.cells2
    cases e
    have hl : 0 < f.len := by
      rcases hw.1 with ⟨h1, _⟩ | ⟨h1, _⟩ | ⟨_, h1, _⟩
      · cases h1
      · cases h1
      · exact h1
    obtain ⟨b, off, u, rfl, _⟩ := hr1.reads.at1 (k := 0) hl
    obtain ⟨b', off', u', rfl, _⟩ := hr2.reads.at1 (k := 0) hl
    exact ⟨_, c, _, ci, hl, hg⟩
  have call71 : k = 2 → (Calls Try.prog 71 #[.pointer (some ⟨g, 0, none⟩), .iface 72 (.pointer (some ⟨g', 0, none⟩))] w (EqPost (eqB k f k' f') w)) → Calls Try.prog 52 #[.pointer (some ⟨g, 0, none⟩), .iface 72 (.pointer (some ⟨g', 0, none⟩))] w (EqPost (eqB k f k' f') w) := by
    intro hk2 hc
    have HC := Lib.hid hc
    subst hk2
    clear hc hr hr' hk hk' hg hg' d1 hb hash arr hgg
    go_enter Try.func52, Try.ntmps52
    go_wp2_with fail
    refine HC.out.mono ?_
    rintro e w' ⟨rfl, hd⟩
    have HD := Lib.hid hd
    clear hd
    go_wp2_with fail
    go_ret
    exact ⟨rfl, HD.out⟩
  have two : ∀ (n n' : Nat) (a a' ai ai' : Addr) (c c' ci ci' : Nat), k = 2 → k' = 2 → f.len = n → f'.len = n' → (n = 0 ∨ n' = 0) →
      w.heap[g]? = some (.cells #[.int .i64 (hsh k f), .int .i64 2, .pointer none, .int .i64 0, .slice (some a) n c, .slice (some ai) n ci] 97 (0, 0)) →
      w.heap[g']? = some (.cells #[.int .i64 (hsh k' f'), .int .i64 2, .pointer none, .int .i64 0, .slice (some a') n' c', .slice (some ai') n' ci'] 97 (0, 0)) →
      Calls Try.prog 52 #[.pointer (some ⟨g, 0, none⟩), .iface 72 (.pointer (some ⟨g', 0, none⟩))] w (EqPost (eqB k f k' f') w) := by
    intro n n' a a' ai ai' c c' ci ci' hk2 hk2' hfl hfl' h0 hgc hgc'
    have nil : ∀ {f : Tops}, f.len = 0 → f = .nil := fun {f} h => by cases f with | nil => rfl | cons => simp [Tops.len] at h
    have e : decide (n = n') = eqB k f k' f' := by
      unfold eqB
      rw [Bool.eq_iff_iff]
      simp only [decide_eq_true_eq]
      constructor
      · intro e
        have h1 : n = 0 := by omega
        have h2 : n' = 0 := by omega
        exact ⟨by rw [hk2, hk2'], by rw [nil (hfl.trans h1), nil (hfl'.trans h2)]⟩
      · rintro ⟨_, e⟩; rw [← hfl, ← hfl', e]
    refine call71 hk2 ?_
    rw [← e]
    exact arr0_any g g' n n' c c' ci ci' a a' ai ai' _ _ w h0 (fun e' => by
      have h1 : n = 0 := by omega
      have h2 : n' = 0 := by omega
      rw [nil (hfl.trans h1), nil (hfl'.trans h2), hk2, hk2']) hgc hgc' hash
  rcases hk' with ⟨hw', hk0'⟩ | ⟨hk2', rfl, hn2'⟩
  · rcases hk with hk | ⟨rfl, rfl, hn2⟩
    · exact (hb ⟨hk, hw', hk0'⟩).elim
    obtain ⟨_, a, c, a', c', e0, hgc⟩ := hn2
    cases e0
    rcases hw'.1 with ⟨rfl, _⟩ | ⟨rfl, hl⟩ | ⟨rfl, hl, _⟩
    · exact absurd rfl hk0'
    · refine call71 rfl ?_
      rw [eqB_false (by simp)]
      clear hr hr' hg hg' hgc hb hash arr call71 two hgg hw' hk0' hl q1 c1 HR HR'
      go_enter Try.func71, Try.ntmps71
      go_wp2_with fail
      go_ret
      exact ⟨rfl, Dr.refl _⟩
    · obtain ⟨b, d, b', d', hl', hgc'⟩ := arr HR'.out hw'
      exact two 0 f'.len a b a' b' c d c' d' rfl rfl rfl rfl (.inl rfl) hgc hgc'
  · subst hk2'
    obtain ⟨_, b, d, b', d', e0, hgc'⟩ := hn2'
    cases e0
    rcases hk with ⟨hw, hk0⟩ | ⟨rfl, rfl, hn2⟩
    · rcases hw.1 with ⟨rfl, _⟩ | ⟨rfl, hl⟩ | ⟨rfl, hl, _⟩
      · exact absurd rfl hk0
      · obtain ⟨g0, s', q1', kk', sub', e0, rfl, hsub', hgs⟩ := HR.out.cells1
        cases e0
        have HC := Lib.hid (single0_any g g' w d1)
        rw [eqB_false (by simp)]
        clear hr hr' hg hg' hgc' hgs hb hash arr call71 two hgg hw hk0 hl d1 hsub' HR HR'
        go_enter Try.func52, Try.ntmps52
        go_wp2_with fail
        refine HC.out.mono ?_
        rintro e w' ⟨rfl, hd⟩
        have HD := Lib.hid hd
        clear hd
        go_wp2_with fail
        go_ret
        exact ⟨rfl, HD.out⟩
      · obtain ⟨a, c, a', c', hl', hgc⟩ := arr HR.out hw
        exact two f.len 0 a b a' b' c d c' d' rfl rfl rfl rfl (.inr rfl) hgc hgc'
    · obtain ⟨_, a, c, a', c', e0, hgc⟩ := hn2
      cases e0
      exact two 0 0 a b a' b' c d c' d' rfl rfl rfl rfl (.inl rfl) hgc hgc'
set_option maxRecDepth 20000 in
theorem equals2K_any (c : Addr) (f : Tops) (k : Nat) (f' : Tops) (k' : Nat) (p q : Addr) (w : World) (h : KO w p k f) (h' : KO w q k' f') :
    Calls Try.prog 123 #[.pointer (some c), .pointer (some p), .pointer (some q)] w (EqPost (eqB k f k' f') w) := by
  have H := Lib.hid (equalsK_any k k' f f' p q w h h')
  have qm := method_equals
  clear h h'
  go_enter Try.func123, Try.ntmps123
  go_wp2_with fail
  refine H.out.mono ?_
  rintro e w' ⟨rfl, hd⟩
  have HD := Lib.hid hd
  clear hd
  go_wp2_with fail
  go_ret
  exact ⟨rfl, HD.out⟩
end Go.Proofs.Ytcbabfndfikejaa
