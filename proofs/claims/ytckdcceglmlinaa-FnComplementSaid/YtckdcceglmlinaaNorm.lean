/- Sets of numbers as lists of ranges, the plain law: what the steps do to the list of ranges. No condition. -/
import Derived.Test.YtckdcceglmlinaaBuild
import Derived.Test.YtckdcceglmlinaaKeep
namespace Go.Proofs.Ytckdcceglmlinaa

/-- removeOne, where no range is split -/
def rmOne (v : Int) : List Rg → List Rg
  | [] => []
  | (s, e) :: t => if v < s then (s, e) :: t else if v = s ∧ v = e - 1 then t else if v = s then (s + 1, e) :: t else if v = e - 1 then (s, e - 1) :: t else (s, e) :: rmOne v t
def NoSplit (v : Int) (L : List Rg) : Prop := ∀ r ∈ L, ¬ (r.1 < v ∧ v < r.2 - 1)
/-- removeRange, where no range is split or cut at its head -/
def rmRange (a b : Int) : List Rg → List Rg
  | [] => []
  | (s, e) :: t => if b ≤ s then (s, e) :: t else if a ≤ s then t else if a < e then (s, a) :: t else (s, e) :: rmRange a b t
def Whole (a b : Int) (L : List Rg) : Prop := ∀ r ∈ L, r.1 < b → a < r.2 → r.2 ≤ b

/-- the ranges are sorted, with gaps, from lo on -/
def Norm (lo : Int) : List Rg → Prop
  | [] => True
  | (s, e) :: t => lo ≤ s ∧ s < e ∧ Norm (e + 1) t
def memR (i : Int) : List Rg → Prop
  | [] => False
  | (s, e) :: t => (s ≤ i ∧ i < e) ∨ memR i t
theorem Norm.mono {lo lo' : Int} {L : List Rg} (h : Norm lo L) (hl : lo' ≤ lo) : Norm lo' L := by
  cases L with
  | nil => trivial
  | cons r t => obtain ⟨s, e⟩ := r; exact ⟨by have := h.1; omega, h.2.1, h.2.2⟩
theorem memR_lo {lo i : Int} {L : List Rg} (h : Norm lo L) (hi : memR i L) : lo ≤ i := by
  induction L generalizing lo with
  | nil => exact hi.elim
  | cons r t ih =>
    obtain ⟨s, e⟩ := r
    obtain ⟨h1, h2, h3⟩ := h
    rcases hi with hi | hi
    · omega
    · have := ih h3 hi; omega
/-- two such lists with the same members are one -/
theorem norm_ext {lo lo' : Int} {L M : List Rg} (h : Norm lo L) (h' : Norm lo' M) (hm : ∀ i, memR i L ↔ memR i M) : L = M := by
  induction L generalizing lo lo' M with
  | nil =>
    cases M with
    | nil => rfl
    | cons r t => obtain ⟨s, e⟩ := r; exact ((hm s).2 (.inl ⟨Int.le_refl _, h'.2.1⟩)).elim
  | cons r t ih =>
    obtain ⟨s, e⟩ := r
    obtain ⟨h1, h2, h3⟩ := h
    cases M with
    | nil => exact ((hm s).1 (.inl ⟨Int.le_refl _, h2⟩)).elim
    | cons r' t' =>
      obtain ⟨s', e'⟩ := r'
      obtain ⟨k1, k2, k3⟩ := h'
      have lo1 : ∀ i, memR i t → e + 1 ≤ i := fun i hi => memR_lo h3 hi
      have lo2 : ∀ i, memR i t' → e' + 1 ≤ i := fun i hi => memR_lo k3 hi
      have hs : s = s' := by
        have a1 := (hm s).1 (.inl ⟨Int.le_refl _, h2⟩)
        have a2 := (hm s').2 (.inl ⟨Int.le_refl _, k2⟩)
        rcases a1 with a1 | a1 <;> rcases a2 with a2 | a2
        · omega
        · have := lo1 _ a2; omega
        · have := lo2 _ a1; omega
        · have := lo1 _ a2; have := lo2 _ a1; omega
      subst hs
      have he : e = e' := by
        rcases Int.lt_trichotomy e e' with hlt | heq | hgt
        · exfalso
          have a1 := (hm e).2 (.inl ⟨by omega, hlt⟩)
          rcases a1 with a1 | a1
          · omega
          · have := lo1 _ a1; omega
        · exact heq
        · exfalso
          have a1 := (hm e').1 (.inl ⟨by omega, hgt⟩)
          rcases a1 with a1 | a1
          · omega
          · have := lo2 _ a1; omega
      subst he
      congr 1
      refine ih h3 k3 fun i => ?_
      have a1 := hm i
      constructor
      · intro hi
        rcases a1.1 (.inr hi) with hh | hh
        · have := lo1 i hi; omega
        · exact hh
      · intro hi
        rcases a1.2 (.inr hi) with hh | hh
        · have := lo2 i hi; omega
        · exact hh


theorem touchedL_cons (a b : Int) (s : Bool) (r : Rg) (t : List Rg) : touchedL a b s (r :: t) = touchedL a b s t + if tch a b s r then 1 else 0 := by
  unfold touchedL; rw [List.countP_cons]
theorem tch_true (a b p q : Int) : tch a b true (p, q) = true ↔ ((p < b ∧ a < q) ∨ p = b ∨ q = a) := by
  simp [tch]
theorem tch_false (a b p q : Int) : tch a b false (p, q) = true ↔ (p < b ∧ a < q) := by
  simp [tch]
theorem touchedL_hd {a b : Int} {s : Bool} {r : Rg} {t : List Rg} {n : Nat} (h : touchedL a b s (r :: t) ≤ n + 1) (hr : tch a b s r = true) : touchedL a b s t ≤ n := by
  rw [touchedL_cons, if_pos hr] at h; omega
theorem touchedL_tl {a b : Int} {s : Bool} {r : Rg} {t : List Rg} {n : Nat} (h : touchedL a b s (r :: t) ≤ n) : touchedL a b s t ≤ n := by
  rw [touchedL_cons] at h; omega
theorem touchedL_no {a b : Int} {s : Bool} {r : Rg} {t : List Rg} (h : touchedL a b s (r :: t) ≤ 0) : tch a b s r = false := by
  rw [touchedL_cons] at h; cases hr : tch a b s r
  · rfl
  · rw [hr] at h; simp at h

theorem mergeHd_norm {lo p q a b e : Int} {t : List Rg} (hp : lo ≤ p) (hpq : p < q) (hq : q = imax e b) (hae : a ≤ e) (hpe : p ≤ e) (ht : Norm (e + 1) t) (hn : touchedL a b true t ≤ 1) :
    Norm lo (mergeHd p q t) ∧ ∀ i, memR i (mergeHd p q t) ↔ memR i t ∨ (p ≤ i ∧ i < q) := by
  have hqe : e ≤ q ∧ b ≤ q ∧ (q = e ∨ q = b) := by rw [hq]; unfold imax; split <;> omega
  clear hq
  cases t with
  | nil => exact ⟨⟨hp, hpq, trivial⟩, fun i => by simp [mergeHd, memR]⟩
  | cons r t' =>
    obtain ⟨s2, e2⟩ := r
    obtain ⟨h1, h2, h3⟩ := ht
    simp only [mergeHd]
    by_cases c1 : e2 ≤ q
    · rw [if_pos c1]
      have hn' := touchedL_hd (n := 0) hn ((tch_true ..).2 (.inl ⟨by omega, by omega⟩))
      refine ⟨⟨hp, hpq, ?_⟩, fun i => ?_⟩
      · cases t' with
        | nil => trivial
        | cons r3 t3 =>
          obtain ⟨s3, e3⟩ := r3
          have h4 := touchedL_no hn'
          have h5 : ¬ _ := fun h => by rw [(tch_true a b s3 e3).2 h] at h4; cases h4
          obtain ⟨k1, k2, k3⟩ := h3
          exact ⟨by omega, k2, k3⟩
      · simp only [memR]
        constructor
        · rintro (h | h)
          · exact .inr h
          · exact .inl (.inr h)
        · rintro ((h | h) | h)
          · exact .inl (by omega)
          · exact .inr h
          · exact .inl h
    · rw [if_neg c1]
      by_cases c2 : s2 ≤ q
      · rw [if_pos c2]
        refine ⟨⟨hp, by omega, h3⟩, fun i => ?_⟩
        simp only [memR]
        constructor
        · rintro (h | h)
          · by_cases hi : i < q
            · exact .inr ⟨h.1, hi⟩
            · exact .inl (.inl (by omega))
          · exact .inl (.inr h)
        · rintro ((h | h) | h)
          · exact .inl (by omega)
          · exact .inr h
          · exact .inl (by omega)
      · rw [if_neg c2]
        refine ⟨⟨hp, hpq, by omega, h2, h3⟩, fun i => ?_⟩
        simp only [memR]
        constructor
        · rintro (h | h)
          · exact .inr h
          · exact .inl h
        · rintro (h | h)
          · exact .inr h
          · exact .inl h

theorem addI_norm {lo a b : Int} {L : List Rg} (hab : a < b) (hlo : lo ≤ a) (h : Norm lo L) (ht : touchedL a b true L ≤ 2) :
    Norm lo (addI a b L) ∧ ∀ i, memR i (addI a b L) ↔ memR i L ∨ (a ≤ i ∧ i < b) := by
  induction L generalizing lo with
  | nil => exact ⟨⟨hlo, hab, trivial⟩, fun i => by simp [addI, memR]⟩
  | cons r t ih =>
    obtain ⟨s, e⟩ := r
    obtain ⟨h1, h2, h3⟩ := h
    unfold addI
    by_cases c1 : b < s
    · rw [if_pos c1]
      refine ⟨⟨hlo, hab, by omega, h2, h3⟩, fun i => ?_⟩
      simp only [memR]
      constructor
      · rintro (h | h)
        · exact .inr h
        · exact .inl h
      · rintro (h | h)
        · exact .inr h
        · exact .inl h
    · rw [if_neg c1]
      by_cases c2 : b = s
      · rw [if_pos c2]
        refine ⟨⟨hlo, by omega, h3⟩, fun i => ?_⟩
        simp only [memR]
        constructor
        · rintro (h | h)
          · by_cases hi : i < b
            · exact .inr ⟨h.1, hi⟩
            · exact .inl (.inl (by omega))
          · exact .inl (.inr h)
        · rintro ((h | h) | h)
          · exact .inl (by omega)
          · exact .inr h
          · exact .inl (by omega)
      · rw [if_neg c2]
        by_cases c3 : a ≤ e
        · rw [if_pos c3]
          have hmin : imin s a ≤ s ∧ imin s a ≤ a ∧ (imin s a = s ∨ imin s a = a) := by unfold imin; split <;> omega
          have hmax : e ≤ imax e b ∧ b ≤ imax e b ∧ (imax e b = e ∨ imax e b = b) := by unfold imax; split <;> omega
          have hn := touchedL_hd (n := 1) ht ((tch_true a b s e).2 (by omega))
          have key := mergeHd_norm (lo := lo) (p := imin s a) (q := imax e b) (by omega) (by omega) rfl c3 (by omega) h3 hn
          refine ⟨key.1, fun i => ?_⟩
          rw [key.2 i]
          simp only [memR]
          constructor
          · rintro (h | h)
            · exact .inl (.inr h)
            · by_cases hi : s ≤ i ∧ i < e
              · exact .inl (.inl hi)
              · exact .inr (by omega)
          · rintro ((h | h) | h)
            · exact .inr (by omega)
            · exact .inl h
            · exact .inr (by omega)
        · rw [if_neg c3]
          have key := ih (lo := e + 1) (by omega) h3 (touchedL_tl ht)
          refine ⟨⟨h1, h2, key.1⟩, fun i => ?_⟩
          simp only [memR]
          rw [key.2 i]
          constructor
          · rintro (h | h | h)
            · exact .inl (.inl h)
            · exact .inl (.inr h)
            · exact .inr h
          · rintro ((h | h) | h)
            · exact .inl h
            · exact .inr (.inl h)
            · exact .inr (.inr h)

/-- what is taken away -/
theorem rmOne_norm {lo v : Int} {L : List Rg} (h : Norm lo L) (hns : NoSplit v L) :
    Norm lo (rmOne v L) ∧ ∀ i, memR i (rmOne v L) ↔ memR i L ∧ i ≠ v := by
  induction L generalizing lo with
  | nil => exact ⟨trivial, fun i => by simp [rmOne, memR]⟩
  | cons r t ih =>
    obtain ⟨s, e⟩ := r
    obtain ⟨h1, h2, h3⟩ := h
    have lo1 : ∀ i, memR i t → e + 1 ≤ i := fun i hi => memR_lo h3 hi
    have hx := hns (s, e) (List.mem_cons_self ..)
    simp only at hx
    unfold rmOne
    by_cases c1 : v < s
    · rw [if_pos c1]
      refine ⟨⟨h1, h2, h3⟩, fun i => ⟨fun hi => ⟨hi, ?_⟩, fun hi => hi.1⟩⟩
      rcases hi with hi | hi
      · omega
      · have := lo1 i hi; omega
    · rw [if_neg c1]
      by_cases c2 : v = s ∧ v = e - 1
      · rw [if_pos c2]
        refine ⟨h3.mono (by omega), fun i => ⟨fun hi => ⟨.inr hi, ?_⟩, fun hi => ?_⟩⟩
        · have := lo1 i hi; omega
        · rcases hi with ⟨hi | hi, hv⟩
          · omega
          · exact hi
      · rw [if_neg c2]
        by_cases c3 : v = s
        · rw [if_pos c3]
          refine ⟨⟨by omega, by omega, h3⟩, fun i => ⟨fun hi => ?_, fun hi => ?_⟩⟩
          · rcases hi with hi | hi
            · exact ⟨.inl (by omega), by omega⟩
            · have := lo1 i hi; exact ⟨.inr hi, by omega⟩
          · rcases hi with ⟨hi | hi, hv⟩
            · exact .inl (by omega)
            · exact .inr hi
        · rw [if_neg c3]
          by_cases c4 : v = e - 1
          · rw [if_pos c4]
            refine ⟨⟨by omega, by omega, h3.mono (by omega)⟩, fun i => ⟨fun hi => ?_, fun hi => ?_⟩⟩
            · rcases hi with hi | hi
              · exact ⟨.inl (by omega), by omega⟩
              · have := lo1 i hi; exact ⟨.inr hi, by omega⟩
            · rcases hi with ⟨hi | hi, hv⟩
              · exact .inl (by omega)
              · exact .inr hi
          · rw [if_neg c4]
            have key := ih h3 (fun r hr => hns r (List.mem_cons_of_mem _ hr))
            refine ⟨⟨h1, h2, key.1⟩, fun i => ?_⟩
            simp only [memR]
            rw [key.2 i]
            constructor
            · rintro (hi | hi)
              · exact ⟨.inl hi, by omega⟩
              · exact ⟨.inr hi.1, hi.2⟩
            · rintro ⟨hi | hi, hv⟩
              · exact .inl hi
              · exact .inr ⟨hi, hv⟩

theorem rmRange_norm {lo a b : Int} {L : List Rg} (h : Norm lo L) (ht : touchedL a b false L ≤ 1) (hw : Whole a b L) :
    Norm lo (rmRange a b L) ∧ ∀ i, memR i (rmRange a b L) ↔ memR i L ∧ ¬ (a ≤ i ∧ i < b) := by
  induction L generalizing lo with
  | nil => exact ⟨trivial, fun i => by simp [rmRange, memR]⟩
  | cons r t ih =>
    obtain ⟨s, e⟩ := r
    obtain ⟨h1, h2, h3⟩ := h
    have lo1 : ∀ i, memR i t → e + 1 ≤ i := fun i hi => memR_lo h3 hi
    have hx := hw (s, e) (List.mem_cons_self ..)
    simp only at hx
    have far : touchedL a b false t ≤ 0 → a < e → ∀ i, memR i t → b ≤ i := by
      intro hn hae i hi
      cases t with
      | nil => exact hi.elim
      | cons r2 t2 =>
        obtain ⟨s2, e2⟩ := r2
        have h4 := touchedL_no hn
        have h5 : ¬ _ := fun h => by rw [(tch_false a b s2 e2).2 h] at h4; cases h4
        obtain ⟨k1, k2, k3⟩ := h3
        rcases hi with hi | hi
        · omega
        · have := memR_lo k3 hi; omega
    unfold rmRange
    by_cases c1 : b ≤ s
    · rw [if_pos c1]
      refine ⟨⟨h1, h2, h3⟩, fun i => ⟨fun hi => ⟨hi, ?_⟩, fun hi => hi.1⟩⟩
      rcases hi with hi | hi
      · omega
      · have := lo1 i hi; omega
    · rw [if_neg c1]
      by_cases c2 : a ≤ s
      · rw [if_pos c2]
        have hn := touchedL_hd (n := 0) ht ((tch_false a b s e).2 (by omega))
        have hf := far hn (by omega)
        refine ⟨h3.mono (by omega), fun i => ⟨fun hi => ⟨.inr hi, ?_⟩, fun hi => ?_⟩⟩
        · have := hf i hi; omega
        · rcases hi with ⟨hi | hi, hv⟩
          · omega
          · exact hi
      · rw [if_neg c2]
        by_cases c3 : a < e
        · rw [if_pos c3]
          have hn := touchedL_hd (n := 0) ht ((tch_false a b s e).2 (by omega))
          have hf := far hn c3
          refine ⟨⟨h1, by omega, h3.mono (by omega)⟩, fun i => ⟨fun hi => ?_, fun hi => ?_⟩⟩
          · rcases hi with hi | hi
            · exact ⟨.inl (by omega), by omega⟩
            · have := hf i hi; exact ⟨.inr hi, by omega⟩
          · rcases hi with ⟨hi | hi, hv⟩
            · exact .inl (by omega)
            · exact .inr hi
        · rw [if_neg c3]
          have key := ih h3 (touchedL_tl ht) (fun r hr => hw r (List.mem_cons_of_mem _ hr))
          refine ⟨⟨h1, h2, key.1⟩, fun i => ?_⟩
          simp only [memR]
          rw [key.2 i]
          constructor
          · rintro (hi | hi)
            · exact ⟨.inl hi, by omega⟩
            · exact ⟨.inr hi.1, hi.2⟩
          · rintro ⟨hi | hi, hv⟩
            · exact .inl hi
            · exact .inr ⟨hi, hv⟩

/-- the ranges of truth values -/
theorem memR_append (i : Int) (L M : List Rg) : memR i (L ++ M) ↔ memR i L ∨ memR i M := by
  induction L with
  | nil => simp [memR]
  | cons r t ih => obtain ⟨s, e⟩ := r; simp only [List.cons_append, memR, ih]; exact ⟨fun h => by rcases h with h | h | h; exact .inl (.inl h); exact .inl (.inr h); exact .inr h, fun h => by rcases h with (h | h) | h; exact .inl h; exact .inr (.inl h); exact .inr (.inr h)⟩
/-- all end at hi at most -/
def Upto (hi : Int) (L : List Rg) : Prop := ∀ r ∈ L, r.2 ≤ hi
theorem norm_snoc {lo x y : Int} {L : List Rg} (h : Norm lo L) (hlo : lo ≤ x) (hu : ∀ r ∈ L, r.2 < x) (hxy : x < y) : Norm lo (L ++ [(x, y)]) := by
  induction L generalizing lo with
  | nil => exact ⟨hlo, hxy, trivial⟩
  | cons r t ih =>
    obtain ⟨s, e⟩ := r
    obtain ⟨h1, h2, h3⟩ := h
    have := hu (s, e) (List.mem_cons_self ..)
    simp only at this
    exact ⟨h1, h2, ih h3 (by omega) (fun r hr => hu r (List.mem_cons_of_mem _ hr))⟩
theorem norm_last {lo x y z : Int} {L : List Rg} (h : Norm lo (L ++ [(x, y)])) (hz : x < z) : Norm lo (L ++ [(x, z)]) ∧ ∀ r ∈ L, r.2 < x := by
  induction L generalizing lo with
  | nil => exact ⟨⟨h.1, hz, trivial⟩, fun r hr => by cases hr⟩
  | cons r t ih =>
    obtain ⟨s, e⟩ := r
    obtain ⟨h1, h2, h3⟩ := h
    have k := ih h3
    refine ⟨⟨h1, h2, k.1⟩, fun r hr => ?_⟩
    rcases List.mem_cons.1 hr with rfl | hr
    · simp only
      cases t with
      | nil => have := h3.1; omega
      | cons r2 t2 =>
        have h4 := k.2 r2 (List.mem_cons_self ..)
        obtain ⟨s2, e2⟩ := r2
        have := h3.1; have := h3.2.1
        simp only at h4
        omega
    · exact k.2 r hr
theorem rg_norm (bs : List Bool) (k : Nat) : Norm 0 (rg bs k) ∧ Upto k (rg bs k) ∧ ∀ i : Int, memR i (rg bs k) ↔ 0 ≤ i ∧ i < k ∧ bs[i.toNat]? = some true := by
  induction k with
  | zero => exact ⟨trivial, fun r hr => by simp [rg] at hr, fun i => by simp [rg, memR]; omega⟩
  | succ k ih =>
    obtain ⟨h1, h2, h3⟩ := ih
    unfold rg
    by_cases hb : bs[k]? = some true
    · rw [if_pos hb]
      have mem : ∀ i : Int, (0 ≤ i ∧ i < ((k + 1 : Nat) : Int) ∧ bs[i.toNat]? = some true) ↔ ((0 ≤ i ∧ i < (k : Int) ∧ bs[i.toNat]? = some true) ∨ ((k : Int) ≤ i ∧ i < (k : Int) + 1)) := by
        intro i
        constructor
        · rintro ⟨a1, a2, a3⟩
          by_cases hi : i < k
          · exact .inl ⟨a1, hi, a3⟩
          · exact .inr (by omega)
        · rintro (⟨a1, a2, a3⟩ | a)
          · exact ⟨a1, by omega, a3⟩
          · obtain rfl : i = (k : Int) := by omega
            exact ⟨by omega, by omega, by simpa using hb⟩
      generalize rg bs k = out at *
      rcases List.eq_nil_or_concat out with rfl | ⟨pre, r, rfl⟩
      · refine ⟨?_, ?_, fun i => ?_⟩
        · exact ⟨by omega, by omega, trivial⟩
        · intro r hr; simp [pushR] at hr; subst hr; simp
        · rw [mem i, ← h3 i]; simp [pushR, memR]
      · simp only [List.concat_eq_append] at *
        obtain ⟨x, y⟩ := r
        by_cases hy : y = (k : Int)
        · subst hy
          have e1 : pushR (pre ++ [(x, (k : Int))]) k = pre ++ [(x, (k : Int) + 1)] := by simp [pushR]
          rw [e1]
          have hxk : x < (k : Int) := by
            have : ∀ {lo : Int} {L : List Rg}, Norm lo (L ++ [(x, (k : Int))]) → x < (k : Int) := by
              intro lo L
              induction L generalizing lo with
              | nil => exact fun h => h.2.1
              | cons r t ih => obtain ⟨s, e⟩ := r; exact fun h => ih h.2.2
            exact this h1
          have h5 := norm_last (z := (k : Int) + 1) h1 (by omega)
          refine ⟨h5.1, ?_, fun i => ?_⟩
          · intro r hr
            rcases List.mem_append.1 hr with hr | hr
            · have := h5.2 r hr; omega
            · simp at hr; subst hr; simp
          · rw [mem i, ← h3 i, memR_append, memR_append]
            simp only [memR, or_false]
            constructor
            · rintro (h | h)
              · exact .inl (.inl h)
              · by_cases hi : i < k
                · exact .inl (.inr ⟨h.1, hi⟩)
                · exact .inr (by omega)
            · rintro ((h | h) | h)
              · exact .inl h
              · exact .inr (by omega)
              · exact .inr (by omega)
        · have e1 : pushR (pre ++ [(x, y)]) k = pre ++ [(x, y)] ++ [((k : Int), (k : Int) + 1)] := by simp [pushR, hy]
          rw [e1]
          have hu : ∀ r ∈ pre ++ [(x, y)], r.2 < (k : Int) := by
            intro r hr
            have h6 := h2 r hr
            rcases List.mem_append.1 hr with hr' | hr'
            · have hxy : Norm 0 (pre ++ [(x, y)]) := h1
              have h7 := (norm_last (z := x + 1) hxy (by omega)).2 r hr'
              have h8 := h2 (x, y) (by simp)
              have h9 : x < y := by
                have : ∀ {lo : Int} {L : List Rg}, Norm lo (L ++ [(x, y)]) → x < y := by
                  intro lo L
                  induction L generalizing lo with
                  | nil => exact fun h => h.2.1
                  | cons r t ih => obtain ⟨s, e⟩ := r; exact fun h => ih h.2.2
                exact this h1
              simp only at h8
              omega
            · simp at hr'; subst hr'; simp only at h6 ⊢; omega
          refine ⟨norm_snoc h1 (by omega) hu (by omega), ?_, fun i => ?_⟩
          · intro r hr
            rcases List.mem_append.1 hr with hr | hr
            · have := h2 r hr; omega
            · simp at hr; subst hr; simp
          · rw [mem i, ← h3 i, memR_append _ (pre ++ [(x, y)])]
            simp [memR]
    · rw [if_neg hb]
      refine ⟨h1, fun r hr => ?_, fun i => ?_⟩
      · have := h2 r hr; omega
      · rw [h3 i]
        constructor
        · rintro ⟨a1, a2, a3⟩; exact ⟨a1, by omega, a3⟩
        · rintro ⟨a1, a2, a3⟩
          refine ⟨a1, ?_, a3⟩
          by_cases hi : i = (k : Int)
          · subst hi; exact (hb (by simpa using a3)).elim
          · omega
theorem rangesF_norm (bs : List Bool) : Norm 0 (rangesF bs) ∧ Upto bs.length (rangesF bs) ∧ ∀ i : Int, memR i (rangesF bs) ↔ 0 ≤ i ∧ bs[i.toNat]? = some true := by
  have h := rg_norm bs bs.length
  refine ⟨h.1, h.2.1, fun i => ?_⟩
  rw [rangesF, h.2.2 i]
  constructor
  · rintro ⟨a, _, c⟩; exact ⟨a, c⟩
  · rintro ⟨a, c⟩
    have := (List.getElem?_eq_some_iff.1 c).1
    exact ⟨a, by omega, c⟩
theorem fillN_at (bs : List Bool) (a n : Nat) (v : Bool) (i : Nat) (h : a + n ≤ bs.length) : (fillN bs a n v)[i]? = if a ≤ i ∧ i < a + n then some v else bs[i]? := by
  induction n with
  | zero => simp [fillN]; omega
  | succ n ih =>
    have ih := ih (by omega)
    unfold fillN
    rw [List.getElem?_set]
    by_cases h1 : a + n = i
    · rw [if_pos h1, if_pos (by rw [fillN_length]; omega), if_pos (by omega)]
    · rw [if_neg h1, ih]
      by_cases h2 : a ≤ i ∧ i < a + n
      · rw [if_pos h2, if_pos (by omega)]
      · rw [if_neg h2, if_neg (by omega)]

theorem addOk_spec {bs : List Bool} {a b : Int} (h : addOk bs a b = true) : 0 ≤ a ∧ b ≤ 61 ∧ a < b ∧ touchedL a b true (rangesF bs) ≤ 2 := by
  simp only [addOk, Bool.and_eq_true, decide_eq_true_eq] at h
  exact ⟨h.1.1.1, h.1.1.2, h.1.2, h.2⟩
/-- adding, seen on the ranges -/
theorem ranges_add {bs : List Bool} {a b : Int} (hl : bs.length = 62) (h : addOk bs a b = true) : rangesF (addF bs a b) = addI a b (rangesF bs) := by
  obtain ⟨h1, h2, h3, h4⟩ := addOk_spec h
  have e1 : addF bs a b = fillN bs a.toNat (b - a).toNat true := by unfold addF; rw [if_pos h]
  obtain ⟨n1, n2, n3⟩ := rangesF_norm bs
  obtain ⟨m1, m2, m3⟩ := rangesF_norm (addF bs a b)
  have key := addI_norm h3 h1 n1 h4
  refine norm_ext m1 key.1 fun i => ?_
  rw [m3 i, key.2 i, n3 i, e1]
  by_cases hi : 0 ≤ i
  · rw [fillN_at _ _ _ _ _ (by omega)]
    by_cases hr : a ≤ i ∧ i < b
    · rw [if_pos (by omega)]; simp [hi, hr]
    · rw [if_neg (by omega)]; simp [hi, hr]
  · constructor
    · rintro ⟨h, _⟩; exact (hi h).elim
    · rintro (⟨h, _⟩ | h)
      · exact (hi h).elim
      · omega
theorem takeOk_spec {bs : List Bool} {a b : Int} {one : Bool} (h : takeOk bs a b one = true) : 0 ≤ a ∧ b ≤ 61 ∧ a < b ∧ touchedL a b false (rangesF bs) ≤ 1 ∧ ∀ r ∈ rangesF bs, bad a b one r = false := by
  simp only [takeOk, Bool.and_eq_true, decide_eq_true_eq, Bool.not_eq_true'] at h
  refine ⟨h.1.1.1.1, h.1.1.1.2, h.1.1.2, h.1.2, fun r hr => ?_⟩
  cases hb : bad a b one r
  · rfl
  · have := List.any_eq_true.2 ⟨r, hr, hb⟩
    rw [badL] at h
    rw [h.2] at this; cases this
theorem take_mem {bs : List Bool} {a b : Int} {one : Bool} (hl : bs.length = 62) (h : takeOk bs a b one = true) (i : Int) : memR i (rangesF (takeF bs a b one)) ↔ memR i (rangesF bs) ∧ ¬ (a ≤ i ∧ i < b) := by
  obtain ⟨h1, h2, h3, _⟩ := takeOk_spec h
  have e1 : takeF bs a b one = fillN bs a.toNat (b - a).toNat false := by unfold takeF; rw [if_pos h]
  rw [(rangesF_norm _).2.2 i, (rangesF_norm _).2.2 i, e1]
  by_cases hi : 0 ≤ i
  · rw [fillN_at _ _ _ _ _ (by omega)]
    by_cases hr : a ≤ i ∧ i < b
    · rw [if_pos (by omega)]; simp [hr]
    · rw [if_neg (by omega)]; simp [hi, hr]
  · constructor
    · rintro ⟨h, _⟩; exact (hi h).elim
    · rintro ⟨⟨h, _⟩, _⟩; exact (hi h).elim
theorem noSplit_of {bs : List Bool} {v : Int} (h : takeOk bs v (v + 1) true = true) : NoSplit v (rangesF bs) := by
  intro r hr
  have := (takeOk_spec h).2.2.2.2 r hr
  simp [bad] at this
  omega
/-- taking one away, seen on the ranges -/
theorem ranges_one {bs : List Bool} {v : Int} (hl : bs.length = 62) (h : takeOk bs v (v + 1) true = true) : rangesF (takeF bs v (v + 1) true) = rmOne v (rangesF bs) := by
  have key := rmOne_norm (rangesF_norm bs).1 (noSplit_of h)
  refine norm_ext (rangesF_norm _).1 key.1 fun i => ?_
  rw [take_mem hl h i, key.2 i]
  constructor
  · rintro ⟨h1, h2⟩; exact ⟨h1, by omega⟩
  · rintro ⟨h1, h2⟩; exact ⟨h1, by omega⟩
theorem whole_of {bs : List Bool} {a b : Int} (h : takeOk bs a b false = true) : Whole a b (rangesF bs) := by
  intro r hr
  have := (takeOk_spec h).2.2.2.2 r hr
  simp [bad] at this
  omega
/-- taking more away, seen on the ranges -/
theorem ranges_rm {bs : List Bool} {a b : Int} (hl : bs.length = 62) (h : takeOk bs a b false = true) : rangesF (takeF bs a b false) = rmRange a b (rangesF bs) := by
  obtain ⟨h1, h2, h3, h4, _⟩ := takeOk_spec h
  have key := rmRange_norm (rangesF_norm bs).1 h4 (whole_of h)
  refine norm_ext (rangesF_norm _).1 key.1 fun i => ?_
  rw [take_mem hl h i, key.2 i]
theorem norm_len {lo hi : Int} {L : List Rg} (h : Norm lo L) (hu : Upto hi L) (hlo : lo ≤ hi) : lo + L.length ≤ hi := by
  induction L generalizing lo with
  | nil => simpa using hlo
  | cons r t ih =>
    obtain ⟨s, e⟩ := r
    obtain ⟨h1, h2, h3⟩ := h
    have h4 := hu (s, e) (List.mem_cons_self ..)
    simp only at h4
    cases t with
    | nil => simp; omega
    | cons r2 t2 =>
      have h5 := hu r2 (by simp)
      obtain ⟨s2, e2⟩ := r2
      have := h3.1; have := h3.2.1
      simp only at h5
      have := ih h3 (fun r hr => hu r (List.mem_cons_of_mem _ hr)) (by omega)
      simp only [List.length_cons] at this ⊢
      omega
theorem norm_sm {L : List Rg} (h : Norm 0 L) (hu : Upto 62 L) : Sm L := by
  refine ⟨by have := norm_len h hu (by omega); omega, ?_⟩
  have : ∀ {lo : Int} {L : List Rg}, 0 ≤ lo → Norm lo L → Upto 62 L → ∀ r ∈ L, 0 ≤ r.1 ∧ r.1 ≤ 100 ∧ 0 ≤ r.2 ∧ r.2 ≤ 100 := by
    intro lo L
    induction L generalizing lo with
    | nil => intro _ _ _ r hr; cases hr
    | cons r t ih =>
      intro hlo hn hu x hx
      obtain ⟨s, e⟩ := r
      have h1 := hn.1; have h2 := hn.2.1; have h4 := hu (s, e) (List.mem_cons_self ..)
      simp only at h4
      rcases List.mem_cons.1 hx with rfl | hx
      · simp only; omega
      · exact ih (lo := e + 1) (by omega) hn.2.2 (fun r hr => hu r (List.mem_cons_of_mem _ hr)) x hx
  exact this (Int.le_refl _) h hu
theorem ranges_sm {bs : List Bool} (hl : bs.length = 62) : Sm (rangesF bs) := by
  obtain ⟨h1, h2, _⟩ := rangesF_norm bs
  rw [hl] at h2
  exact norm_sm h1 h2

/-- a step, seen on the ranges -/
def stepI (s : St) (L : List Rg) : List Rg :=
  if s.op = 0 then addI s.a (s.a + 1) L else if s.op = 1 then addI s.a (s.b + 1) L else if s.op = 2 then rmOne s.a L else if s.b - s.a = 1 then rmOne s.a L else rmRange s.a s.b L
theorem refS_ranges {bs bs' : List Bool} {s : St} (hl : bs.length = 62) (h : refS bs s = some bs') : bs'.length = 62 ∧ rangesF bs' = stepI s (rangesF bs) := by
  unfold refS at h
  unfold stepI
  split at h
  · cases h
  · split at h
    · rename_i h0
      rw [if_pos h0]
      split at h
      · rename_i h1; cases h; exact ⟨(addF_length ..).trans hl, ranges_add hl h1⟩
      · cases h
    · rename_i h0
      rw [if_neg h0]
      split at h
      · rename_i h1
        rw [if_pos h1]
        split at h
        · rename_i h2; cases h; exact ⟨(addF_length ..).trans hl, ranges_add hl h2.2⟩
        · cases h
      · rename_i h1
        rw [if_neg h1]
        split at h
        · rename_i h2
          rw [if_pos h2]
          split at h
          · rename_i h3; cases h; exact ⟨(takeF_length ..).trans hl, ranges_one hl h3⟩
          · cases h
        · rename_i h2
          rw [if_neg h2]
          split at h
          · split at h
            · rename_i h4
              cases h
              by_cases h5 : s.b - s.a = 1
              · rw [if_pos h5]
                have e1 : (s.b - s.a == 1) = true := by simpa using h5
                have e2 : s.b = s.a + 1 := by omega
                rw [e1, e2] at h4 ⊢
                exact ⟨(takeF_length ..).trans hl, ranges_one hl h4⟩
              · rw [if_neg h5]
                have e1 : (s.b - s.a == 1) = false := by simpa using h5
                rw [e1] at h4 ⊢
                exact ⟨(takeF_length ..).trans hl, ranges_rm hl h4⟩
            · cases h
          · cases h
end Go.Proofs.Ytckdcceglmlinaa
