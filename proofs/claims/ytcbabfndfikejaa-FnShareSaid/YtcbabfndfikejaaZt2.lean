/- What the table says, and how it lies, when a node has been added. No condition. -/
import Derived.Test.YtcbabfndfikejaaZt1
namespace Go.Proofs.Ytcbabfndfikejaa
open Go.RowKit
set_option linter.unusedSimpArgs false

theorem srt_step : ∀ {f : Tops} {j : Nat} {s s' : Int}, f.srt → f.sts[j]? = some s → f.sts[j + 1]? = some s' → s < s'
  | .nil, _, _, _, _, h, _ => by simp [Tops.sts] at h
  | .cons x _ _ r, 0, s, s', hs, h, h' => by
    simp only [Tops.sts, List.getElem?_cons_zero, Option.some.injEq, List.getElem?_cons_succ] at h h'
    subst h
    exact hs.1 s' (List.mem_of_getElem? h')
  | .cons x _ _ r, j + 1, s, s', hs, h, h' => by
    simp only [Tops.sts, List.getElem?_cons_succ] at h h'
    exact srt_step (f := r) hs.2.2 h h'
theorem zp_snoc {w0 : World} {S K : List Addr} {ms : List Nd} {p : Addr} {k : Nat} {f : Tops} {ps : List Int} {qs : List Addr} (hP : ZP w0 S K ms) (hp : p ∉ K) (hpS : p ∈ S) (hS : S.length ≤ 1000) (hR : Rep w0 NoX p k f) (hsub : Subs w0 NoX f qs) (hsrt : f.srt) (hl : ps.length = f.len) (hf1 : f.len ≤ 1000)
    (hps : ∀ i, i < f.len → ∃ (x : Nat) (q : Addr), ps[i]? = some (x : Int) ∧ K[x]? = some q ∧ qs[i]? = some q) : ZP w0 S (K ++ [p]) (ms ++ [⟨ps, f.sts⟩]) := by
  have hlen := hP.len
  have hnd : (K ++ [p]).Nodup := by
    rw [List.nodup_append]
    exact ⟨hP.nd, by simp, fun a ha b hb => by simp at hb; subst hb; exact fun e => hp (e ▸ ha)⟩
  have hsubS : ∀ q ∈ K ++ [p], q ∈ S := fun q hq => by
    rcases List.mem_append.1 hq with h | h
    · exact hP.sub q h
    · simp at h; subst h; exact hpS
  have hgood : TG (ms ++ [⟨ps, f.sts⟩]) := hP.good.snoc ⟨by rw [hl, Tops.sts_length], by rw [Tops.sts_length]; exact hf1, fun j hj => by
    rw [Tops.sts_length] at hj
    obtain ⟨x, q, h1, h2, _⟩ := hps j hj
    exact ⟨x, h1, by rw [← hlen]; exact (List.getElem?_eq_some_iff.1 h2).1⟩, fun j s s' h h' => srt_step hsrt h h'⟩
  have hln : (ms ++ [(⟨ps, f.sts⟩ : Nd)]).length ≤ 1000 := by
    have := nodup_sub _ _ hnd hsubS
    simp only [List.length_append, List.length_singleton] at this ⊢
    omega
  refine ⟨by simp [hlen], hnd, hsubS, hgood, fun j q hj => ?_⟩
  rcases Nat.lt_or_ge j K.length with hlt | hge
  · rw [List.getElem?_append_left hlt] at hj
    obtain ⟨k', f', h1, h2⟩ := hP.rep j q hj
    exact ⟨k', f', h1, by rw [tr_append (by omega)]; exact h2⟩
  · rw [List.getElem?_append_right hge] at hj
    have hjl : j = K.length := by
      rcases Nat.eq_zero_or_pos (j - K.length) with h0 | h0
      · omega
      · rw [List.getElem?_eq_none (by simp; omega)] at hj; cases hj
    subst hjl
    simp at hj
    subst hj
    refine ⟨k, f, hR, ?_⟩
    have hat : (ms ++ [(⟨ps, f.sts⟩ : Nd)])[K.length]? = some ⟨ps, f.sts⟩ := by rw [hlen]; simp
    rw [tr_eq (hgood.tab hln) hat]
    simp only [Tops.sts_length, Prod.mk.injEq, true_and]
    refine mkTops_nrm f ps hl (fun i s k' a hia => ?_)
    have hil : i < f.len := by
      rw [← Tops.list_length]
      rw [← list_at] at hia
      exact (List.getElem?_eq_some_iff.1 hia).1
    obtain ⟨x, q, h1, h2, h3⟩ := hps i hil
    have hxl : x < ms.length := by rw [← hlen]; exact (List.getElem?_eq_some_iff.1 h2).1
    refine ⟨x, h1, ?_⟩
    show tr (ms ++ [⟨ps, f.sts⟩]) x = _
    rw [tr_append hxl]
    obtain ⟨k2, f2, hr2, ht2⟩ := hP.rep x q h2
    obtain ⟨s3, k3, a3, hat3, hr3⟩ := hsub.at_ _ _ _ _ h3
    rw [hia] at hat3
    cases hat3
    obtain ⟨_, rfl⟩ := hr2.unique hr3
    exact ht2
/-- the row of the table has grown, and is stored -/
theorem zmem_snoc {w wr w2 w4 : World} {X : Nat → Prop} {B gk ga gt m n : Nat} {v' v'' : Value} {K : List Addr} {ms : List Nd} {AP AT : Option Addr} {cP cT : Nat} {ps ss : List Int} {xs : List Value} {p : Addr}
    (hM : ZMem wr (Use X (.slice AP n cP) (.slice AT n cT)) B gk ga gt m v' K ms) (hxs : wr.ownsRow B 76 2 v' ms.length xs)
    (hxr : ∀ i nd, ms[i]? = some nd → ∃ A c A' c', xs[i * 2]? = some (.slice A nd.ps.length c) ∧ xs[i * 2 + 1]? = some (.slice A' nd.ss.length c') ∧ Row wr (Use X (.slice AP n cP) (.slice AT n cT)) 3 A nd.ps.length (ints nd.ps) ∧ Row wr (Use X (.slice AP n cP) (.slice AT n cT)) 3 A' nd.ss.length (ints nd.ss))
    (hX : ∀ y, X y → y < w.heap.size) (hoP : wr.ownsRow (w.heap.size + 1) 3 1 (.slice AP n cP) n (ints ps)) (hoT : wr.ownsRow (w.heap.size + 1) 3 1 (.slice AT n cT) n (ints ss)) (hpn : ps.length = n) (hsn : ss.length = n)
    (hown2 : w2.ownsRow B 76 2 v'' (ms.length + 1) (xs ++ [.slice AP n cP, .slice AT n cT])) (hg2 : (wr.alloc (.cells #[.slice AP n cP, .slice AT n cT] 76)).grownBy w2 v'.ownBlock)
    (hPM : PMap w4 m (KD (K ++ [p]))) (hg4 : (w2.setCell ⟨gt, 0, none⟩ v'').grownBy w4 (some m)) : ZMem w4 X B gk ga gt m v'' (K ++ [p]) (ms ++ [⟨ps, ss⟩]) := by
  obtain ⟨es, clock, hmm, hfit⟩ := hM.map
  have hal : ∀ {y : Nat} {o : Obj}, wr.heap[y]? = some o → (wr.alloc (.cells #[.slice AP n cP, .slice AT n cT] 76)).heap[y]? = some o := fun h => (heap_old' (Array.getElem?_eq_some_iff.1 h).1).trans h
  have nv : ∀ {y : Nat} {o : Obj}, wr.heap[y]? = some o → (∀ cs, o ≠ .cells cs 76 (0, 0)) → some y ≠ v'.ownBlock := fun hy ho e => by
    rcases hxs.2 with ⟨rfl, _⟩ | ⟨g, cap, cur, rfl, _, hg, _⟩
    · cases e
    · cases e
      rw [hg] at hy
      cases hy
      exact ho _ rfl
  have h2 : ∀ {y : Nat} {o : Obj}, wr.heap[y]? = some o → (∀ cs, o ≠ .cells cs 76 (0, 0)) → w2.heap[y]? = some o := fun hy ho => by
    rw [hg2.block _ (Array.getElem?_eq_some_iff.1 (hal hy)).1 (nv hy ho)]; exact hal hy
  have hgt2 := h2 hM.ht (fun cs e => by injection e with _ e; cases e)
  have hm2 := h2 hmm (fun cs e => by cases e)
  have h3 : ∀ {y : Nat} {o : Obj}, w2.heap[y]? = some o → (∀ cs, o ≠ .cells cs 59 (0, 0)) → (w2.setCell ⟨gt, 0, none⟩ v'').heap[y]? = some o := fun {y} {o} hy ho => by
    rw [Below.heap_setCell w2 ⟨gt, 0, none⟩ v'' y (fun e => by
      simp only at e
      subst e
      rw [hgt2] at hy
      cases hy
      exact ho _ rfl)]
    exact hy
  have hgt3 : (w2.setCell ⟨gt, 0, none⟩ v'').heap[gt]? = some (.cells #[v''] 59 (0, 0)) := by
    have := Blk.set_ hgt2 0 v''
    unfold Blk at this
    simpa using this
  have hm3 := h3 hm2 (fun cs e => by cases e)
  have h4 : ∀ {y : Nat} {o : Obj}, (w2.setCell ⟨gt, 0, none⟩ v'').heap[y]? = some o → (∀ es c, o ≠ .map es c) → w4.heap[y]? = some o := fun {y} {o} hy ho => by
    rw [hg4.block _ (Array.getElem?_eq_some_iff.1 hy).1 (fun e => by
      cases e
      rw [hm3] at hy
      cases hy
      exact ho _ _ rfl)]
    exact hy
  have c4 : ∀ {y : Nat} {cs : Array Value} {e : TypeId}, wr.heap[y]? = some (.cells cs e (0, 0)) → e ≠ 76 → e ≠ 59 → w4.heap[y]? = some (.cells cs e (0, 0)) := fun hy h76 h59 =>
    h4 (h3 (h2 hy (fun cs e => by injection e with _ e; exact h76 e)) (fun cs e => by injection e with _ e; exact h59 e)) (fun es c e => by cases e)
  have hsub : ∀ y, X y → Use X (.slice AP n cP) (.slice AT n cT) y := fun y hy => .inl hy
  have wk : ∀ {A : Option Addr} {k : Nat} {l : List Value}, Row wr (Use X (.slice AP n cP) (.slice AT n cT)) 3 A k l → Row w2 X 3 A k l := fun h => by
    have h1 := h.move (Move.of_sub wr hsub) (.inr (.inr rfl))
    exact h1.move (fun g cs e he hx hg => ⟨h2 hg (fun cs e' => by injection e' with _ e'; subst e'; rcases he with he | he | he <;> cases he), hx⟩) (.inr (.inr rfl))
  have nw : ∀ {A : Option Addr} {c : Nat} {l : List Int}, wr.ownsRow (w.heap.size + 1) 3 1 (.slice A n c) n (ints l) → Row w2 X 3 A n (ints l) := fun h => by
    have h1 : Row wr X 3 _ n _ := Row.of_own h (fun g hg hx => by have := (h.lt g hg).1; have := hX g hx; omega)
    exact h1.move (fun g cs e he hx hg => ⟨h2 hg (fun cs e' => by injection e' with _ e'; subst e'; rcases he with he | he | he <;> cases he), hx⟩) (.inr (.inr rfl))
  refine ⟨c4 hM.hk (by decide) (by decide), c4 hM.ha (by decide) (by decide), h4 hgt3 (fun es c e => by cases e), ?_, hPM⟩
  have hT2 : TblX w2 X B v'' (ms ++ [⟨ps, ss⟩]) := by
    have h0 := hxs.1
    refine TblX.snoc (w := w2) (A := AP) (A' := AT) (c := cP) (c' := cT) h0 (fun i nd hi => ?_) ?_ ?_ ?_ (Stay.refl w2 |>.move X)
    · obtain ⟨A, c, A', c', e1, e2, r1, r2⟩ := hxr i nd hi
      exact ⟨A, c, A', c', e1, e2, wk r1, wk r2⟩
    · simp only [hpn]; exact nw hoP
    · simp only [hsn]; exact nw hoT
    · simp only [hpn, hsn]; exact hown2
  refine hT2.move (fun g cs e he hx hg => ⟨?_, hx⟩) (fun g hg => ?_)
  · exact h4 (h3 hg (fun cs e' => by injection e' with _ e'; subst e'; rcases he with he | he | he <;> cases he)) (fun es c e => by cases e)
  · rcases hown2.2 with ⟨rfl, _⟩ | ⟨g', cap, cur, rfl, _, hh, _⟩
    · cases hg
    · cases hg
      rw [hh]
      exact h4 (h3 hh (fun cs e => by injection e with _ e; cases e)) (fun es c e => by cases e)
end Go.Proofs.Ytcbabfndfikejaa
