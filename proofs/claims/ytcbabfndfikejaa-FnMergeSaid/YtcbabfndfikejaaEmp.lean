/- The law FnEmptyPath: the package tells whether the empty stack is among those of a choice. Conditions: none but that the table reads. -/
import Derived.Test.YtcbabfndfikejaaBuild
import Derived.BigQuiet
namespace Go.Proofs.Ytcbabfndfikejaa
open Go.RowKit

theorem Rep.cells0 {w : World} {X : Nat → Prop} {p : Addr} {f : Tops} (h : Rep w X p 0 f) : ∃ g, p = ⟨g, 0, none⟩ ∧ f.sts = [] ∧ w.heap[g]? = some (.cells #[.int .i64 (hsh 0 f), .int .i64 0, .pointer none, .int .i64 2147483647, .slice none 0 0, .slice none 0 0] 97 (0, 0)) := by
  obtain ⟨g, hp, qs, ⟨_, _, H⟩, _⟩ := h
  rcases H with ⟨_, h2, h3⟩ | ⟨h1, _⟩ | ⟨h1, _⟩
  · exact ⟨g, hp, h2, h3⟩
  · cases h1
  · cases h1
theorem Rep.cells1 {w : World} {X : Nat → Prop} {p : Addr} {f : Tops} (h : Rep w X p 1 f) : ∃ g s q k sub, p = ⟨g, 0, none⟩ ∧ f = .cons s k sub .nil ∧ Rep w X q k sub ∧
    w.heap[g]? = some (.cells #[.int .i64 (hsh 1 f), .int .i64 1, .pointer (some q), .int .i64 s, .slice none 0 0, .slice none 0 0] 97 (0, 0)) := by
  obtain ⟨g, hp, qs, ⟨_, _, H⟩, hs⟩ := h
  rcases H with ⟨h1, _⟩ | ⟨_, s, q, h2, h3, h4⟩ | ⟨h1, _⟩
  · cases h1
  · cases f with
    | nil => cases h2
    | cons s' k sub r =>
      obtain ⟨g', qr, e1, e2, e3⟩ := hs
      have h2' : s' = s ∧ r.sts = [] := by simpa [Tops.sts] using h2
      obtain ⟨rfl, h2'⟩ := h2'
      have hr : r = .nil := by cases r with
        | nil => rfl
        | cons => simp [Tops.sts] at h2'
      subst hr
      rw [h3] at e1
      simp only [List.cons.injEq] at e1
      obtain ⟨rfl, _⟩ := e1
      exact ⟨g, s', _, k, sub, hp, rfl, ⟨g', rfl, e2⟩, h4⟩
  · cases h1
theorem Rep.cells2 {w : World} {X : Nat → Prop} {p : Addr} {f : Tops} (h : Rep w X p 2 f) : ∃ g A c A' c' qs, p = ⟨g, 0, none⟩ ∧ ¬ X g ∧ qs.length = f.len ∧ Subs w X f qs ∧
    w.heap[g]? = some (.cells #[.int .i64 (hsh 2 f), .int .i64 2, .pointer none, .int .i64 0, .slice A f.len c, .slice A' f.len c'] 97 (0, 0)) ∧ Row w X 72 A f.len (ptrs qs) ∧ Row w X 3 A' f.len (ints f.sts) := by
  obtain ⟨g, hp, qs, ⟨hx, hl, H⟩, hs⟩ := h
  rw [Tops.sts_length] at hl H
  rcases H with ⟨h1, _⟩ | ⟨h1, _⟩ | ⟨_, A, c, A', c', h2, h3, h4⟩
  · cases h1
  · cases h1
  · exact ⟨g, A, c, A', c', qs, hp, hx, hl, hs, h2, h3, h4⟩
theorem cell_of {w : World} {g : Nat} {cs : Array Value} {t : TypeId} (h : w.heap[g]? = some (.cells cs t (0, 0))) (i : Nat) : w.cell? ⟨g, i, none⟩ = cs[i]? := cell_of_row w g i cs t (0, 0) h

def BoolPost (r : Bool) (w : World) (e : Ending) (w' : World) : Prop := e = .returned (.bool r) ∧ w = w'

theorem hasEmptyPath0 (X : Nat → Prop) (p : Addr) (f : Tops) (w : World) (h : Rep w X p 0 f) : Calls Try.prog 51 #[.pointer (some p)] w (BoolPost true w) := by
  obtain ⟨g, rfl, _, hg⟩ := h.cells0
  have c1 : w.cell? ⟨g, 1, none⟩ = some (.int .i64 0) := cell_of hg 1
  have c3 : w.cell? ⟨g, 3, none⟩ = some (.int .i64 2147483647) := cell_of hg 3
  clear h hg
  go_enter Try.func51, Try.ntmps51
  go_wp2
  go_ret
  exact ⟨rfl, rfl⟩
theorem hasEmptyPath1 (X : Nat → Prop) (p : Addr) (f : Tops) (w : World) (h : Rep w X p 1 f) (hs : ∀ s ∈ f.sts, s ≤ 1000) : Calls Try.prog 51 #[.pointer (some p)] w (BoolPost false w) := by
  obtain ⟨g, s, q, k, sub, rfl, rfl, _, hg⟩ := h.cells1
  have hs' : s ≤ 1000 := hs s (by simp [Tops.sts])
  have c1 : w.cell? ⟨g, 1, none⟩ = some (.int .i64 1) := cell_of hg 1
  have c3 : w.cell? ⟨g, 3, none⟩ = some (.int .i64 s) := cell_of hg 3
  have hne : (s == 2147483647) = false := by rw [beq_eq_false_iff_ne]; omega
  clear h hg hs hs'
  go_enter Try.func51, Try.ntmps51
  go_wp2
  go_ret
  exact ⟨rfl, rfl⟩
theorem hasEmptyPath2 (X : Nat → Prop) (p : Addr) (f : Tops) (w : World) (h : Rep w X p 2 f) (hl : 0 < f.len) (hm : f.len ≤ 1000) (hs : ∀ s ∈ f.sts, s ≤ 1000) : Calls Try.prog 51 #[.pointer (some p)] w (BoolPost false w) := by
  obtain ⟨g, A, c, A', c', qs, rfl, _, _, _, hg, _, hr⟩ := h.cells2
  obtain ⟨b, off, u, rfl, _, hu, hc⟩ := hr.reads.at1 (k := f.len - 1) (by omega)
  obtain ⟨s, hs1, rfl⟩ := ints_at hu
  have hs' : s ≤ 1000 := hs s (List.mem_of_getElem? hs1)
  have c1 : w.cell? ⟨g, 1, none⟩ = some (.int .i64 2) := cell_of hg 1
  have c5 : w.cell? ⟨g, 5, none⟩ = some (.slice (some ⟨b, off, none⟩) f.len c') := cell_of hg 5
  have hne : (s == 2147483647) = false := by rw [beq_eq_false_iff_ne]; omega
  clear h hg hs hs' hs1 hu hr
  go_enter Try.func51, Try.ntmps51
  go_wp2
  go_ret
  exact ⟨rfl, rfl⟩

theorem Rep.noX {w : World} {X : Nat → Prop} {p : Addr} {k : Nat} {f : Tops} (h : Rep w X p k f) : Rep w NoX p k f := h.move fun _ _ _ _ _ hg => ⟨hg, fun hx => hx⟩
theorem built_take (ns : List Nd) (k : Nat) (nd : Nd) (h : ns[k]? = some nd) : (built ns)[k]? = some (build1 (built (ns.take k)) nd) := by
  have hlt : k < ns.length := (List.getElem?_eq_some_iff.1 h).1
  have pre : ∀ (l : List Nd) (bs : List (Nat × Tops)) (j : Nat), j < bs.length → (builtFrom bs l)[j]? = bs[j]? := by
    intro l
    induction l with
    | nil => intro bs j _; rfl
    | cons a r ih =>
      intro bs j hj
      show (builtFrom (bs ++ [build1 bs a]) r)[j]? = _
      rw [ih _ _ (by simp; omega), List.getElem?_append_left hj]
  have split : ∀ (l : List Nd) (m : List Nd) (bs : List (Nat × Tops)), builtFrom bs (l ++ m) = builtFrom (builtFrom bs l) m := by
    intro l
    induction l with
    | nil => intro m bs; rfl
    | cons a r ih => intro m bs; exact ih m _
  have e : built ns = builtFrom (built (ns.take (k + 1))) (ns.drop (k + 1)) := by
    unfold built
    rw [← split, List.take_append_drop]
  have hl : (built (ns.take (k + 1))).length = k + 1 := by rw [built_length, List.length_take]; omega
  rw [e, pre _ _ _ (by omega), take_snoc' ns k nd h, built_snoc, List.getElem?_append_right (by rw [built_length, List.length_take]; omega)]
  rw [built_length, List.length_take, Nat.min_eq_left (by omega), Nat.sub_self]
  rfl

/-- zzBuild's outcome at one place. -/
theorem build_at {w : World} {X : Nat → Prop} {ns : List Nd} {qs : List Addr} {k : Nat} {nd : Nd} (h : Reps w X (built ns) qs) (hl : qs.length = ns.length) (hk : ns[k]? = some nd) :
    ∃ q, qs[k]? = some q ∧ Rep w NoX q (build1 (built (ns.take k)) nd).1 (build1 (built (ns.take k)) nd).2 := by
  have hlt : k < ns.length := (List.getElem?_eq_some_iff.1 hk).1
  have hq := List.getElem?_eq_getElem (show k < qs.length by omega)
  obtain ⟨kf, h1, h2⟩ := h k _ hq
  rw [built_take ns k nd hk] at h1
  cases h1
  exact ⟨_, hq, h2.noX⟩

theorem sts_small {ns : List Nd} (hg : GoodT ns) {k : Nat} {nd : Nd} (hk : ns[k]? = some nd) : ∀ s ∈ nd.ss, s ≤ 1000 := by
  intro s hs
  obtain ⟨j, hj⟩ := List.getElem?_of_mem hs
  have hlt : k < ns.length := (List.getElem?_eq_some_iff.1 hk).1
  have hjl : j < nd.ss.length := (List.getElem?_eq_some_iff.1 hj).1
  obtain ⟨s', p, h1, _, _, h2, _⟩ := (hg.2 k nd hlt hk).2.2 j hjl
  rw [hj] at h1; cases h1; exact h2

/-- Is it the empty stack alone? -/
def emptyB (nd : Nd) : Bool := decide (nd.ss.length = 0)
theorem hasEmptyPath_built {w : World} {ns : List Nd} (hg : GoodT ns) {k : Nat} {nd : Nd} (hk : ns[k]? = some nd) {q : Addr} (h : Rep w NoX q (build1 (built (ns.take k)) nd).1 (build1 (built (ns.take k)) nd).2) :
    Calls Try.prog 51 #[.pointer (some q)] w (BoolPost (emptyB nd) w) := by
  have hlt : k < ns.length := (List.getElem?_eq_some_iff.1 hk).1
  have hok := hg.2 k nd hlt hk
  have hsm := sts_small hg hk
  have hst : (mkTops (built (ns.take k)) nd.ps nd.ss).sts = nd.ss := mkTops_sts _ _ _ hok.1
  have hln : (mkTops (built (ns.take k)) nd.ps nd.ss).len = nd.ss.length := mkTops_len _ _ _ hok.1
  rcases Nat.lt_trichotomy nd.ss.length 1 with h0 | h1 | h2
  · have e : kindOf nd.ss.length = 0 := by unfold kindOf; rw [if_pos (by omega)]
    simp only [build1, e] at h
    rw [show emptyB nd = true from decide_eq_true (by omega)]
    exact hasEmptyPath0 _ _ _ _ h
  · have e : kindOf nd.ss.length = 1 := by unfold kindOf; rw [if_neg (by omega), if_pos h1]
    simp only [build1, e] at h
    rw [show emptyB nd = false from decide_eq_false (by omega)]
    exact hasEmptyPath1 _ _ _ _ h (by rw [hst]; exact hsm)
  · have e : kindOf nd.ss.length = 2 := by unfold kindOf; rw [if_neg (by omega), if_neg (by omega)]
    simp only [build1, e] at h
    rw [show emptyB nd = false from decide_eq_false (by omega)]
    exact hasEmptyPath2 _ _ _ _ h (by omega) (by have := hok.2.1; omega) (by rw [hst]; exact hsm)

theorem ZZHasEmptyPath_any (A : Option Addr) (c a : Nat) (ns : List Nd) (nd : Nd) (w : World) (ht : Tbl w w.heap.size A ns) (hg : GoodT ns) (ha : ns[a]? = some nd) :
    Calls Try.prog 36 #[.slice A ns.length c, .int .i64 a] w (BelPost (.bool (emptyB nd)) w) := by
  have hal : a < ns.length := (List.getElem?_eq_some_iff.1 ha).1
  have HT := Lib.hid ht
  have HG := Lib.hid hg
  have HA := Lib.hid ha
  have hm := hg.1
  clear ht hg ha
  go_enter Try.func36, Try.ntmps36
  go_wp2_with fail
  refine (zzBuild_any A c ns w HT.out HG.out).mono ?_
  rintro e w1 ⟨A1, c1, qs, rfl, hown, hreps, hb⟩
  have hql : qs.length = ns.length := by have := hown.1; simpa [ptrs] using this
  obtain ⟨q, hq, hrep⟩ := build_at hreps hql HA.out
  obtain ⟨b, off, u, rfl, _, hu, hc⟩ := (Reads.of_own hown).at1 hal
  obtain ⟨q', hq', rfl⟩ := ptrs_at hu
  rw [hq] at hq'; cases hq'
  have HR := Lib.hid hrep
  have HB := Lib.hid hb
  clear hown hreps hql hq hu hrep hb
  go_wp2_with fail
  refine (hasEmptyPath_built HG.out HA.out HR.out).mono ?_
  rintro e w2 ⟨rfl, rfl⟩
  go_wp2_with fail
  go_ret
  exact ⟨rfl, HB.out⟩

theorem implHasEmptyPath_any (A : Option Addr) (c a : Nat) (ns : List Nd) (nd : Nd) (w : World) (ht : Tbl w w.heap.size A ns) (hg : GoodT ns) (ha : ns[a]? = some nd) :
    Calls Try.prog 20 #[.slice A ns.length c, .int .i64 a] w (BelPost (.bool (emptyB nd)) w) := by
  have HT := Lib.hid ht
  have HG := Lib.hid hg
  have HA := Lib.hid ha
  clear ht hg ha
  go_enter Try.func20, Try.ntmps20
  go_wp2_with fail
  refine (implNodes_any A c ns w HT.out HG.out).mono ?_
  rintro e w1 ⟨v, rfl, hown, hb⟩
  obtain ⟨A1, c1, rfl, ht1⟩ := hown.tbl
  clear hown
  go_wp2_with fail
  refine (ZZHasEmptyPath_any A1 c1 a ns nd w1 ht1 HG.out HA.out).mono ?_
  rintro e w2 ⟨rfl, hb2⟩
  have HB := Lib.hid (below_trans hb hb2)
  clear hb hb2 ht1
  go_wp2_with fail
  go_ret
  exact ⟨rfl, HB.out⟩
end Go.Proofs.Ytcbabfndfikejaa
