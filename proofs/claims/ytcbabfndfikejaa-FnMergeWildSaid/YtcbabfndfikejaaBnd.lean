/- How many new choices a merge of two choices of a table needs at most: ten nodes of at most four tops, 120 stacks. Plain Lean, no program in sight. -/
import Derived.Test.YtcbabfndfikejaaCnt
namespace Go.Proofs.Ytcbabfndfikejaa

/-! ### the bound, to be reckoned -/
def mx (a b : Nat) : Nat := bif Nat.ble a b then b else a
theorem mx_l (a b : Nat) : a ≤ mx a b := by
  unfold mx
  cases h : Nat.ble a b
  · exact Nat.le_refl _
  · exact Nat.le_of_ble_eq_true h
theorem mx_r (a b : Nat) : b ≤ mx a b := by
  unfold mx
  cases h : Nat.ble a b
  · have : ¬ a ≤ b := fun h' => by rw [Nat.ble_eq_true_of_le h'] at h; cases h
    simp only [cond_false]; omega
  · exact Nat.le_refl _
/-- what tops that are not merged cost at least -/
def cst (lo : Nat) : Nat → Nat
  | 0 => mx 1 lo
  | k + 1 => lo - (k + 1)
/-- the greatest sums of one, two, three, four -/
abbrev S4 := Nat × Nat × Nat × Nat
def ins4 (s : S4) (v : Nat) : S4 := (mx s.1 v, mx s.2.1 (s.1 + v), mx s.2.2.1 (s.2.1 + v), mx s.2.2.2 (s.2.2.1 + v))
def s4At (s : S4) : Nat → Nat
  | 0 => 0
  | 1 => s.1
  | 2 => s.2.1
  | 3 => s.2.2.1
  | _ => s.2.2.2
def gk (a b : Nat × Nat) (s : S4) (k : Nat) : Nat := (9 + s4At s k) - (8 * k + cst a.1 k + cst b.1 k)
def gmax (a b : Nat × Nat) (s : S4) : Nat → Nat
  | 0 => gk a b s 0
  | k + 1 => mx (gmax a b s k) (gk a b s (k + 1))
def gval (a b : Nat × Nat) (s : S4) : Nat := gmax a b s (bif Nat.ble a.2 b.2 then a.2 else b.2)
/-- one row of the table of bounds -/
def rowG (ti : Nat × Nat) : List (Nat × Nat) → List (List Nat) → S4 → List (List Nat)
  | tj :: r, c :: cs, s => (gval ti tj s :: c) :: rowG ti r cs (c.foldl ins4 s)
  | _, _, _ => []
/-- are the newest ones small -/
def small : List (List Nat) → Bool
  | [] => true
  | [] :: r => small r
  | (g :: _) :: r => Nat.ble g 78 && small r
def runL : List (Nat × Nat) → List (Nat × Nat) → List (List Nat) → Bool
  | [], _, _ => true
  | ti :: r, ts, cols => small (rowG ti ts cols (0, 0, 0, 0)) && runL r (ts ++ [ti]) (rowG ti ts cols (0, 0, 0, 0) ++ [[]])
/-- the first one that is not fixed, parted in two -/
def splt : List (Nat × Nat) → Option (List (Nat × Nat) × List (Nat × Nat))
  | [] => none
  | (lo, hi) :: r => bif Nat.ble 2 hi && Nat.ble (lo + 1) hi then some ((lo, lo) :: r, (lo + 1, hi) :: r) else match splt r with
    | none => none
    | some (a, b) => some ((lo, hi) :: a, (lo, hi) :: b)
def okR : Nat → List (Nat × Nat) → Bool
  | 0, τ => runL τ [] []
  | n + 1, τ => runL τ [] [] || match splt τ with
    | none => false
    | some (a, b) => okR n a && okR n b
def enu : Nat → List (Nat × Nat) → Bool
  | 0, τ => okR 20 τ
  | n + 1, τ => enu n (τ ++ [(0, 1)]) && enu n (τ ++ [(2, 4)])
theorem enu_all : enu 9 [(0, 0)] = true := by decide +kernel

/-! ### what it bounds -/
/-- how many stacks -/
def sk (x : Tr) : Nat := (stkOf x.2).length
theorem sk_pos (x : Tr) : 1 ≤ sk x := stkOf_pos x.2
theorem sub_sum {α : Type} (wt : α → Nat) (h1 : ∀ x, 1 ≤ wt x) : ∀ {A B : List α}, A.Sublist B → (A.map wt).sum + (B.length - A.length) ≤ (B.map wt).sum := by
  intro A B h
  induction h with
  | slnil => simp
  | cons a h ih =>
    rename_i l1 l2
    have := h1 a
    have := h.length_le
    simp only [List.map_cons, List.sum_cons, List.length_cons]
    omega
  | cons_cons a h ih =>
    rename_i l1 l2
    have := h.length_le
    simp only [List.map_cons, List.sum_cons, List.length_cons]
    omega
/-- the choices below tops -/
def kidsT (f : Tops) : List Tr := f.list.map (·.2)
theorem kidsT_len (f : Tops) : (kidsT f).length = f.len := by simp [kidsT, Tops.list_length]
theorem stk_sum : ∀ f : Tops, f.stk.length = ((kidsT f).map sk).sum
  | .nil => rfl
  | .cons s k a r => by
    rw [stk_cons, List.length_append, List.length_map, stk_sum r]
    simp [kidsT, Tops.list, sk]
theorem pairs_sub1 : ∀ (f g : Tops), ((pairsT f g).map (·.1)).Sublist (kidsT f)
  | .nil, g => by rw [pairsT]; simp
  | .cons s k a r, .nil => by rw [pairsT]; simp
  | .cons s k a r, .cons t k' b r' => by
    rw [pairsT]
    split
    · exact (pairs_sub1 r r').cons_cons _
    · split
      · exact (pairs_sub1 r (.cons t k' b r')).cons _
      · exact pairs_sub1 (.cons s k a r) r'
termination_by f g => f.len + g.len
decreasing_by all_goals (simp only [Tops.len]; omega)
theorem pairs_sub2 : ∀ (f g : Tops), ((pairsT f g).map (·.2)).Sublist (kidsT g)
  | .nil, g => by rw [pairsT]; simp
  | .cons s k a r, .nil => by rw [pairsT]; simp
  | .cons s k a r, .cons t k' b r' => by
    rw [pairsT]
    split
    · exact (pairs_sub2 r r').cons_cons _
    · split
      · exact pairs_sub2 r (.cons t k' b r')
      · exact (pairs_sub2 (.cons s k a r) r').cons _
termination_by f g => f.len + g.len
decreasing_by all_goals (simp only [Tops.len]; omega)
/-- The pairs that count. -/
theorem psum_sel (c : Tr → Tr → Nat) : ∀ (l seen : List (Tr × Tr)), ∃ l' : List (Tr × Tr), l'.Sublist l ∧ psum c seen l = (l'.map fun p => c p.1 p.2).sum ∧ l'.Pairwise (fun a b => a ≠ b ∧ (a.2, a.1) ≠ b) ∧ ∀ p ∈ l', p ∉ seen ∧ (p.2, p.1) ∉ seen
  | [], _ => ⟨[], List.Sublist.slnil, rfl, List.Pairwise.nil, fun p hp => by cases hp⟩
  | p :: l, seen => by
    obtain ⟨l', h1, h2, h3, h4⟩ := psum_sel c l (p :: seen)
    unfold psum
    by_cases hs : p ∈ seen ∨ (p.2, p.1) ∈ seen
    · rw [if_pos hs, h2, Nat.zero_add]
      exact ⟨l', h1.cons _, rfl, h3, fun q hq => ⟨fun h => (h4 q hq).1 (List.mem_cons_of_mem _ h), fun h => (h4 q hq).2 (List.mem_cons_of_mem _ h)⟩⟩
    · rw [if_neg hs, h2]
      refine ⟨p :: l', h1.cons_cons _, rfl, List.Pairwise.cons (fun q hq => ⟨fun e => (h4 q hq).1 (by rw [← e]; exact List.mem_cons_self ..), fun e => (h4 q hq).2 ?_⟩) h3, fun q hq => ?_⟩
      · rw [← e]; exact List.mem_cons_self ..
      · rcases List.mem_cons.1 hq with rfl | hq
        · exact ⟨fun h => hs (.inl h), fun h => hs (.inr h)⟩
        · exact ⟨fun h => (h4 q hq).1 (List.mem_cons_of_mem _ h), fun h => (h4 q hq).2 (List.mem_cons_of_mem _ h)⟩

section
variable (w : Bool) (T : Nat → Tr)
def cI (d : Nat × Nat) : Nat := cn w (T d.1) (T d.2)
def kI (d : Nat × Nat) : Nat := sk (T d.1) + sk (T d.2)
/-- v bounds the merge of the choices p and q -/
def GoodV (p q v : Nat) : Prop := cI w T (p, q) + 8 ≤ v + kI T (p, q)
/-- s bounds what any pairs of A need together -/
def Inv4 (s : S4) (A : Nat × Nat → Prop) : Prop := ∀ D : List (Nat × Nat), D.Nodup → (∀ d ∈ D, A d) → D.length ≤ 4 → (D.map fun d => cI w T d + 8).sum ≤ s4At s D.length + (D.map (kI T)).sum
variable {w T}
theorem s4_ge (s : S4) (v : Nat) : ∀ k, k ≤ 4 → s4At s k ≤ s4At (ins4 s v) k
  | 0, _ => Nat.le_refl _
  | 1, _ => mx_l _ _
  | 2, _ => mx_l _ _
  | 3, _ => mx_l _ _
  | 4, _ => mx_l _ _
  | k + 5, h => absurd h (by omega)
theorem s4_add (s : S4) (v : Nat) : ∀ k, k < 4 → s4At s k + v ≤ s4At (ins4 s v) (k + 1)
  | 0, _ => by show 0 + v ≤ mx s.1 v; rw [Nat.zero_add]; exact mx_r _ _
  | 1, _ => mx_r _ _
  | 2, _ => mx_r _ _
  | 3, _ => mx_r _ _
  | k + 4, h => absurd h (by omega)
theorem Inv4.ins {s : S4} {A : Nat × Nat → Prop} {p q v : Nat} (h : Inv4 w T s A) (hv : GoodV w T p q v) : Inv4 w T (ins4 s v) (fun x => A x ∨ x = (p, q)) := by
  intro D hD hA hl
  by_cases hm : (p, q) ∈ D
  · have hp := List.perm_cons_erase hm
    have hl' : D.length = (D.erase (p, q)).length + 1 := by rw [hp.length_eq]; rfl
    have h1 := h (D.erase (p, q)) (hD.erase _) (fun d hd => ((hA d (List.mem_of_mem_erase hd)).resolve_right (fun e => by
      subst e
      exact (List.Nodup.not_mem_erase hD) hd))) (by omega)
    have e1 := (hp.map (fun d => cI w T d + 8)).sum_nat
    have e2 := (hp.map (kI T)).sum_nat
    rw [e1, e2, List.map_cons, List.map_cons, List.sum_cons, List.sum_cons, hl']
    have h2 := s4_add s v (D.erase (p, q)).length (by omega)
    unfold GoodV at hv
    omega
  · have h1 := h D hD (fun d hd => (hA d hd).resolve_right (fun e => hm (e ▸ hd))) hl
    have h2 := s4_ge s v D.length hl
    omega
theorem Inv4.imp {s : S4} {A B : Nat × Nat → Prop} (h : Inv4 w T s A) (hB : ∀ d, B d → A d) : Inv4 w T s B := fun D hD hA hl => h D hD (fun d hd => hB d (hA d hd)) hl
theorem gmax_ge (a b : Nat × Nat) (s : S4) : ∀ (n k : Nat), k ≤ n → gk a b s k ≤ gmax a b s n
  | 0, k, h => by rw [Nat.le_zero.1 h]; exact Nat.le_refl _
  | n + 1, k, h => by
    rcases Nat.lt_or_ge k (n + 1) with h1 | h1
    · exact Nat.le_trans (gmax_ge a b s n k (by omega)) (mx_l _ _)
    · rw [show k = n + 1 by omega]; exact mx_r _ _
theorem gval_ge (a b : Nat × Nat) (s : S4) (k : Nat) (h1 : k ≤ a.2) (h2 : k ≤ b.2) : gk a b s k ≤ gval a b s := by
  refine gmax_ge a b s _ k ?_
  cases h : Nat.ble a.2 b.2 <;> simp only [cond_true, cond_false] <;> assumption
/-- A choice has at least these stacks, beside those of some that lie below. -/
theorem sk_ge {x : Tr} {A : List Tr} {lo : Nat} (hA : A.Sublist (kidsT x.2)) (hlo : lo ≤ x.2.len) : (A.map sk).sum + cst lo A.length ≤ sk x := by
  have h1 := sub_sum sk sk_pos hA
  rw [← stk_sum, kidsT_len] at h1
  have h2 : x.2.stk.length ≤ sk x := stk_le_stkOf x.2
  have h3 := sk_pos x
  cases A with
  | nil =>
    simp only [List.map_nil, List.sum_nil, List.length_nil] at h1 ⊢
    show 0 + mx 1 lo ≤ _
    unfold mx
    cases Nat.ble 1 lo <;> simp only [cond_true, cond_false] <;> omega
  | cons y l =>
    simp only [List.length_cons] at h1 ⊢
    show _ + (lo - (l.length + 1)) ≤ _
    omega
/-- ONE STEP -/
theorem step_good {s : S4} {i j : Nat} {ti tj : Nat × Nat} (hij : j < i) (hs : Inv4 w T s (fun d => d.2 < d.1 ∧ d.1 < i ∧ d.2 < j)) (hT : ∀ i s k a, (s, k, a) ∈ (T i).2.list → ∃ u, u < i ∧ (k, a) = T u)
    (hi1 : ti.1 ≤ (T i).2.len) (hi2 : (T i).2.len ≤ ti.2) (hj1 : tj.1 ≤ (T j).2.len) (hj2 : (T j).2.len ≤ tj.2) (h4 : (T i).2.len ≤ 4) : GoodV w T i j (gval ti tj s) := by
  unfold GoodV cI kI
  simp only
  have base : ∀ c : Nat, c ≤ 1 → c + 8 ≤ gval ti tj s + (sk (T i) + sk (T j)) := fun c hc => by
    have h0 := gval_ge ti tj s 0 (Nat.zero_le _) (Nat.zero_le _)
    have h1 := sk_ge (x := T i) (A := []) (List.nil_sublist _) hi1
    have h2 := sk_ge (x := T j) (A := []) (List.nil_sublist _) hj1
    simp only [List.map_nil, List.sum_nil, List.length_nil, Nat.zero_add] at h1 h2
    unfold gk at h0
    have e : s4At s 0 = 0 := rfl
    rw [e] at h0
    omega
  rw [cn_eq]
  split
  · exact base 0 (by omega)
  split
  · exact base 0 (by omega)
  unfold cnA
  obtain ⟨l', hl1, hl2, hl3, hl4⟩ := psum_sel (cn w) (pairsT (T i).2 (T j).2) []
  rw [hl2]
  -- those that are not equal
  obtain ⟨l, e1, e2, e3⟩ : ∃ l : List (Tr × Tr), l.Sublist l' ∧ (l'.map fun p => cn w p.1 p.2).sum = (l.map fun p => cn w p.1 p.2).sum ∧ ∀ p ∈ l, p.1 ≠ p.2 := by
    clear hl1 hl2 hl3 hl4
    induction l' with
    | nil => exact ⟨[], List.Sublist.slnil, rfl, fun p hp => by cases hp⟩
    | cons p l' ih =>
      obtain ⟨l, e1, e2, e3⟩ := ih
      by_cases h : p.1 = p.2
      · refine ⟨l, e1.cons _, ?_, e3⟩
        rw [List.map_cons, List.sum_cons, e2, cn_eq, if_pos h, Nat.zero_add]
      · refine ⟨p :: l, e1.cons_cons _, ?_, fun q hq => ?_⟩
        · rw [List.map_cons, List.sum_cons, List.map_cons, List.sum_cons, e2]
        · rcases List.mem_cons.1 hq with rfl | hq
          · exact h
          · exact e3 q hq
  rw [e2]
  have hsub := e1.trans hl1
  have hpw := hl3.sublist e1
  -- their numbers
  have num : ∀ l : List (Tr × Tr), (∀ p ∈ l, p ∈ pairsT (T i).2 (T j).2) → (∀ p ∈ l, p.1 ≠ p.2) → l.Pairwise (fun a b => a ≠ b ∧ (a.2, a.1) ≠ b) →
      ∃ D : List (Nat × Nat), D.length = l.length ∧ (∀ d ∈ D, d.2 < d.1 ∧ d.1 < i ∧ d.2 < j) ∧ D.Nodup ∧ (D.map fun d => cI w T d).sum = (l.map fun p => cn w p.1 p.2).sum ∧ (D.map (kI T)).sum = (l.map fun p => sk p.1).sum + (l.map fun p => sk p.2).sum ∧ ∀ d ∈ D, ∃ p ∈ l, (p = (T d.1, T d.2) ∨ p = (T d.2, T d.1)) := by
    intro l
    induction l with
    | nil => exact fun _ _ _ => ⟨[], rfl, fun d hd => (by cases hd), List.nodup_nil, rfl, rfl, fun d hd => (by cases hd)⟩
    | cons p l ih =>
      intro hm hne hpw
      obtain ⟨hp1, hp2⟩ := List.pairwise_cons.1 hpw
      obtain ⟨D, d1, d2, d3, d4, d5, d6⟩ := ih (fun q hq => hm q (List.mem_cons_of_mem _ hq)) (fun q hq => hne q (List.mem_cons_of_mem _ hq)) hp2
      obtain ⟨sv, g1, g2⟩ := pairs_mem (hm p (List.mem_cons_self ..))
      obtain ⟨u, hu, eu⟩ := hT i _ _ _ g1
      obtain ⟨v, hv, ev⟩ := hT j _ _ _ g2
      have eu : p.1 = T u := eu
      have ev : p.2 = T v := ev
      have huv : u ≠ v := fun e => hne p (List.mem_cons_self ..) (by rw [eu, ev, e])
      have key : ∃ d : Nat × Nat, (d.2 < d.1 ∧ d.1 < i ∧ d.2 < j) ∧ (p = (T d.1, T d.2) ∨ p = (T d.2, T d.1)) := by
        rcases Nat.lt_or_ge v u with h | h
        · exact ⟨(u, v), ⟨h, hu, hv⟩, .inl (by rw [← eu, ← ev])⟩
        · exact ⟨(v, u), ⟨by simp only; omega, by simp only; omega, by simp only; omega⟩, .inr (by rw [← eu, ← ev])⟩
      obtain ⟨d, k1, k2⟩ := key
      have kc : cI w T d = cn w p.1 p.2 := by
        unfold cI
        rcases k2 with k2 | k2
        · rw [k2]
        · rw [k2, cn_comm]
      have kk : kI T d = sk p.1 + sk p.2 := by
        unfold kI
        rcases k2 with k2 | k2
        · rw [k2]
        · rw [k2, Nat.add_comm]
      refine ⟨d :: D, by simp [d1], fun x hx => ?_, List.nodup_cons.2 ⟨fun hd => ?_, d3⟩, ?_, ?_, fun x hx => ?_⟩
      · rcases List.mem_cons.1 hx with rfl | hx
        · exact k1
        · exact d2 x hx
      · obtain ⟨p', hp', e⟩ := d6 d hd
        obtain ⟨n1, n2⟩ := hp1 p' hp'
        rcases k2 with k2 | k2 <;> rcases e with e | e
        · exact n1 (k2.trans e.symm)
        · exact n2 (by rw [k2]; exact e.symm)
        · exact n2 (by rw [k2]; exact e.symm)
        · exact n1 (k2.trans e.symm)
      · rw [List.map_cons, List.sum_cons, List.map_cons, List.sum_cons, d4, kc]
      · rw [List.map_cons, List.sum_cons, List.map_cons, List.sum_cons, List.map_cons, List.sum_cons, d5, kk]
        omega
      · rcases List.mem_cons.1 hx with rfl | hx
        · exact ⟨p, List.mem_cons_self .., k2⟩
        · obtain ⟨p', hp', e⟩ := d6 x hx
          exact ⟨p', List.mem_cons_of_mem _ hp', e⟩
  obtain ⟨D, d1, d2, d3, d4, d5, _⟩ := num l (fun p hp => hsub.subset hp) e3 hpw
  have s1 : (l.map (·.1)).Sublist (kidsT (T i).2) := (hsub.map _).trans (pairs_sub1 _ _)
  have s2 : (l.map (·.2)).Sublist (kidsT (T j).2) := (hsub.map _).trans (pairs_sub2 _ _)
  have n1 := s1.length_le
  have n2 := s2.length_le
  rw [List.length_map, kidsT_len] at n1 n2
  have g1 := sk_ge s1 hi1
  have g2 := sk_ge s2 hj1
  rw [List.length_map, List.map_map] at g1 g2
  have hD := hs D d3 d2 (by omega)
  have hsum : ∀ D : List (Nat × Nat), (D.map fun d => cI w T d + 8).sum = (D.map fun d => cI w T d).sum + 8 * D.length := by
    intro D
    induction D with
    | nil => rfl
    | cons d D ih => rw [List.map_cons, List.sum_cons, ih, List.map_cons, List.sum_cons, List.length_cons]; omega
  rw [hsum, d4, d5, d1] at hD
  have gg := gval_ge ti tj s l.length (by omega) (by omega)
  unfold gk at gg
  have g1' : (l.map fun p => sk p.1).sum + cst ti.1 l.length ≤ sk (T i) := g1
  have g2' : (l.map fun p => sk p.2).sum + cst tj.1 l.length ≤ sk (T j) := g2
  omega

/-! ### the reckoning bounds -/
variable (T) in
/-- the numbers of tops are as told, from node m on -/
def FitsAt (m : Nat) (τ : List (Nat × Nat)) : Prop := ∀ i t, τ[i]? = some t → t.1 ≤ (T (m + i)).2.len ∧ (T (m + i)).2.len ≤ t.2
variable (w T) in
def ColOk (n q : Nat) (c : List Nat) : Prop := c.length = n - 1 - q ∧ ∀ m v, c[m]? = some v → GoodV w T (n - 1 - m) q v
theorem fold_ins {q : Nat} : ∀ (c : List Nat) (s : S4) (A : Nat × Nat → Prop) (pm : Nat → Nat), (∀ m v, c[m]? = some v → GoodV w T (pm m) q v) → Inv4 w T s A → Inv4 w T (c.foldl ins4 s) (fun d => A d ∨ ∃ m, m < c.length ∧ d = (pm m, q))
  | [], s, A, pm, _, h => h.imp (fun d hd => hd.resolve_right (fun ⟨m, hm, _⟩ => by simp at hm))
  | v :: c, s, A, pm, hc, h => by
    have h1 := h.ins (hc 0 v rfl)
    have h2 := fold_ins c (ins4 s v) _ (fun m => pm (m + 1)) (fun m u hu => hc (m + 1) u hu) h1
    refine h2.imp (fun d hd => ?_)
    rcases hd with hd | ⟨m, hm, rfl⟩
    · exact .inl (.inl hd)
    · cases m with
      | zero => exact .inl (.inr rfl)
      | succ m => exact .inr ⟨m, by simp at hm; omega, rfl⟩
theorem row_ok {n : Nat} {ti : Nat × Nat} (hT : ∀ i s k a, (s, k, a) ∈ (T i).2.list → ∃ u, u < i ∧ (k, a) = T u) (hi1 : ti.1 ≤ (T n).2.len) (hi2 : (T n).2.len ≤ ti.2) (h4 : (T n).2.len ≤ 4) :
    ∀ (r : List (Nat × Nat)) (cs : List (List Nat)) (j : Nat) (s : S4), r.length = cs.length → j + r.length = n → FitsAt T j r → (∀ m c, cs[m]? = some c → ColOk w T n (j + m) c) → Inv4 w T s (fun d => d.2 < d.1 ∧ d.1 < n ∧ d.2 < j) →
      (rowG ti r cs s).length = r.length ∧ ∀ m c', (rowG ti r cs s)[m]? = some c' → ∃ g c, c' = g :: c ∧ cs[m]? = some c ∧ GoodV w T n (j + m) g
  | [], cs, j, s, hl, _, _, _, _ => by
    rw [List.eq_nil_of_length_eq_zero hl.symm]
    exact ⟨rfl, fun m c' h => by simp [rowG] at h⟩
  | tj :: r, [], j, s, hl, _, _, _, _ => by simp at hl
  | tj :: r, c :: cs, j, s, hl, hj, hf, hc, hs => by
    have hjn : j < n := by simp at hj; omega
    obtain ⟨f1, f2⟩ := hf 0 tj rfl
    rw [Nat.add_zero] at f1 f2
    have hg := step_good (i := n) (ti := ti) (tj := tj) hjn hs hT hi1 hi2 f1 f2 h4
    have hc0 := hc 0 c rfl
    rw [Nat.add_zero] at hc0
    have hs' : Inv4 w T (c.foldl ins4 s) (fun d => d.2 < d.1 ∧ d.1 < n ∧ d.2 < j + 1) := by
      refine (fold_ins c s _ (fun m => n - 1 - m) hc0.2 hs).imp (fun d hd => ?_)
      obtain ⟨d1, d2⟩ := d
      simp only at hd ⊢
      rcases Nat.lt_or_ge d2 j with h | h
      · exact .inl ⟨hd.1, hd.2.1, h⟩
      · refine .inr ⟨n - 1 - d1, by rw [hc0.1]; omega, ?_⟩
        rw [Prod.mk.injEq]
        omega
    obtain ⟨ih1, ih2⟩ := row_ok hT hi1 hi2 h4 r cs (j + 1) (c.foldl ins4 s) (by simpa using hl) (by simp at hj; omega) (fun m t hm => by
      have := hf (m + 1) t hm
      rwa [show j + (m + 1) = j + 1 + m by omega] at this) (fun m c' hm => by
      have := hc (m + 1) c' hm
      rwa [show j + (m + 1) = j + 1 + m by omega] at this) hs'
    refine ⟨by simp [rowG, ih1], fun m c' hm => ?_⟩
    cases m with
    | zero => simp [rowG] at hm; exact ⟨_, _, hm.symm, rfl, hg⟩
    | succ m =>
      obtain ⟨g, c2, e1, e2, e3⟩ := ih2 m c' (by simpa [rowG] using hm)
      exact ⟨g, c2, e1, e2, by rwa [show j + (m + 1) = j + 1 + m by omega]⟩
theorem small_le : ∀ {l : List (List Nat)}, small l = true → ∀ (m g : Nat) (c : List Nat), l[m]? = some (g :: c) → g ≤ 78
  | [], _, m, g, c, h => by simp at h
  | [] :: r, hs, 0, g, c, h => by simp at h
  | [] :: r, hs, m + 1, g, c, h => small_le (l := r) hs m g c (by simpa using h)
  | (g' :: c') :: r, hs, 0, g, c, h => by
    simp only [small, Bool.and_eq_true] at hs
    simp at h
    rw [← h.1]
    exact Nat.le_of_ble_eq_true hs.1
  | (g' :: c') :: r, hs, m + 1, g, c, h => by
    simp only [small, Bool.and_eq_true] at hs
    exact small_le (l := r) hs.2 m g c (by simpa using h)
theorem inv_nil : Inv4 w T (0, 0, 0, 0) (fun d => d.2 < d.1 ∧ d.1 < 0 ∧ d.2 < 0) := fun D _ hA _ => by
  cases D with
  | nil => simp [s4At]
  | cons d D => have := hA d (List.mem_cons_self ..); omega
theorem run_ok (hT : ∀ i s k a, (s, k, a) ∈ (T i).2.list → ∃ u, u < i ∧ (k, a) = T u) (h4 : ∀ i, (T i).2.len ≤ 4) : ∀ (τ ts : List (Nat × Nat)) (cols : List (List Nat)), runL τ ts cols = true → FitsAt T 0 ts → FitsAt T ts.length τ → cols.length = ts.length → (∀ m c, cols[m]? = some c → ColOk w T ts.length m c) →
    ∀ i j, j < i → ts.length ≤ i → i < ts.length + τ.length → cI w T (i, j) + 8 ≤ 78 + kI T (i, j)
  | [], ts, cols, _, _, _, _, _, i, j, _, h1, h2 => by simp at h2; omega
  | ti :: r, ts, cols, hr, hf, hτ, hl, hc, i, j, hji, h1, h2 => by
    simp only [runL, Bool.and_eq_true] at hr
    obtain ⟨a1, a2⟩ := hτ 0 ti rfl
    rw [Nat.add_zero] at a1 a2
    obtain ⟨r1, r2⟩ := row_ok (w := w) hT a1 a2 (h4 _) ts cols 0 (0, 0, 0, 0) hl.symm (by omega) hf (fun m c hm => by rw [Nat.zero_add]; exact hc m c hm) (fun D hD hA hl => by
      cases D with
      | nil => simp [s4At]
      | cons d D => have := hA d (List.mem_cons_self ..); omega)
    rcases Nat.lt_or_ge i (ts.length + 1) with hi | hi
    · have hin : i = ts.length := by omega
      subst hin
      have hm := List.getElem?_eq_getElem (show j < (rowG ti ts cols (0, 0, 0, 0)).length by omega)
      generalize (rowG ti ts cols (0, 0, 0, 0))[j] = c' at hm
      obtain ⟨g, c, e1, _, e3⟩ := r2 j c' hm
      subst e1
      have := small_le hr.1 j g c hm
      rw [Nat.zero_add] at e3
      unfold GoodV at e3
      omega
    · refine run_ok hT h4 r (ts ++ [ti]) _ hr.2 (fun m t hm => ?_) (fun m t hm => ?_) (by simp [r1]) (fun m c hm => ?_) i j hji (by simp; omega) (by simp at h2 ⊢; omega)
      · rcases Nat.lt_or_ge m ts.length with h | h
        · rw [List.getElem?_append_left h] at hm; exact hf m t hm
        · rw [List.getElem?_append_right h] at hm
          have : m = ts.length := by
            have := (List.getElem?_eq_some_iff.1 hm).1
            simp at this; omega
          subst this
          simp at hm
          subst hm
          rw [Nat.zero_add]
          exact ⟨a1, a2⟩
      · have := hτ (m + 1) t hm
        rwa [show ts.length + (m + 1) = (ts ++ [ti]).length + m by simp; omega] at this
      · have hln : (ts ++ [ti]).length = ts.length + 1 := by simp
        rw [hln]
        rcases Nat.lt_or_ge m ts.length with h | h
        · rw [List.getElem?_append_left (by omega)] at hm
          obtain ⟨g, c0, e1, e2, e3⟩ := r2 m c hm
          subst e1
          obtain ⟨q1, q2⟩ := hc m c0 e2
          refine ⟨by rw [List.length_cons, q1]; omega, fun x v hx => ?_⟩
          cases x with
          | zero => simp at hx; subst hx; rw [Nat.zero_add] at e3; exact e3
          | succ x =>
            have := q2 x v (by simpa using hx)
            rwa [show ts.length - 1 - x = ts.length + 1 - 1 - (x + 1) by omega] at this
        · rw [List.getElem?_append_right (by omega)] at hm
          have : m = ts.length := by
            have := (List.getElem?_eq_some_iff.1 hm).1
            simp at this; omega
          subst this
          rw [r1, Nat.sub_self] at hm
          simp at hm
          subst hm
          exact ⟨by simp, fun x v hx => by simp at hx⟩
theorem splt_ok : ∀ {τ a b : List (Nat × Nat)} {m : Nat}, splt τ = some (a, b) → FitsAt T m τ → (a.length = τ.length ∧ b.length = τ.length) ∧ (FitsAt T m a ∨ FitsAt T m b)
  | [], a, b, m, h, _ => by simp [splt] at h
  | (lo, hi) :: r, a, b, m, h, hf => by
    have hf0 := hf 0 (lo, hi) rfl
    have hfr : FitsAt T (m + 1) r := fun i t hi => by
      have := hf (i + 1) t hi
      rwa [show m + (i + 1) = m + 1 + i by omega] at this
    have cons : ∀ (t : Nat × Nat) (l : List (Nat × Nat)), (t.1 ≤ (T m).2.len ∧ (T m).2.len ≤ t.2) → FitsAt T (m + 1) l → FitsAt T m (t :: l) := fun t l h1 h2 i t' hi => by
      cases i with
      | zero => simp at hi; subst hi; exact h1
      | succ i =>
        have := h2 i t' (by simpa using hi)
        rwa [show m + 1 + i = m + (i + 1) by omega] at this
    rw [Nat.add_zero] at hf0
    simp only at hf0
    unfold splt at h
    cases hb : (Nat.ble 2 hi && Nat.ble (lo + 1) hi)
    · rw [hb] at h
      simp only [cond_false] at h
      cases hs : splt r with
      | none => rw [hs] at h; cases h
      | some ab =>
        obtain ⟨a', b'⟩ := ab
        rw [hs] at h
        simp only [Option.some.injEq, Prod.mk.injEq] at h
        obtain ⟨rfl, rfl⟩ := h
        obtain ⟨⟨l1, l2⟩, k⟩ := splt_ok hs hfr
        exact ⟨⟨by simp [l1], by simp [l2]⟩, k.imp (cons _ _ hf0) (cons _ _ hf0)⟩
    · rw [hb] at h
      simp only [cond_true, Option.some.injEq, Prod.mk.injEq] at h
      obtain ⟨rfl, rfl⟩ := h
      refine ⟨⟨rfl, rfl⟩, ?_⟩
      rcases Nat.lt_or_ge lo (T m).2.len with h1 | h1
      · exact .inr (cons _ _ ⟨h1, hf0.2⟩ hfr)
      · exact .inl (cons _ _ ⟨hf0.1, h1⟩ hfr)
theorem okR_ok : ∀ (n : Nat) (τ : List (Nat × Nat)), okR n τ = true → FitsAt T 0 τ → ∃ τ', τ'.length = τ.length ∧ FitsAt T 0 τ' ∧ runL τ' [] [] = true
  | 0, τ, h, hf => ⟨τ, rfl, hf, h⟩
  | n + 1, τ, h, hf => by
    unfold okR at h
    rw [Bool.or_eq_true] at h
    rcases h with h | h
    · exact ⟨τ, rfl, hf, h⟩
    · cases hs : splt τ with
      | none => rw [hs] at h; cases h
      | some ab =>
        obtain ⟨a, b⟩ := ab
        rw [hs] at h
        simp only [Bool.and_eq_true] at h
        obtain ⟨⟨l1, l2⟩, k⟩ := splt_ok hs hf
        rcases k with k | k
        · obtain ⟨τ', e1, e2, e3⟩ := okR_ok n a h.1 k
          exact ⟨τ', e1.trans l1, e2, e3⟩
        · obtain ⟨τ', e1, e2, e3⟩ := okR_ok n b h.2 k
          exact ⟨τ', e1.trans l2, e2, e3⟩
theorem enu_ok (h4 : ∀ i, (T i).2.len ≤ 4) : ∀ (n : Nat) (τ : List (Nat × Nat)), enu n τ = true → FitsAt T 0 τ → ∃ τ', τ'.length = τ.length + n ∧ FitsAt T 0 τ' ∧ runL τ' [] [] = true
  | 0, τ, h, hf => okR_ok 20 τ h hf
  | n + 1, τ, h, hf => by
    simp only [enu, Bool.and_eq_true] at h
    have snoc : ∀ t : Nat × Nat, (t.1 ≤ (T τ.length).2.len ∧ (T τ.length).2.len ≤ t.2) → FitsAt T 0 (τ ++ [t]) := fun t ht i t' hi => by
      rcases Nat.lt_or_ge i τ.length with h | h
      · rw [List.getElem?_append_left h] at hi; exact hf i t' hi
      · rw [List.getElem?_append_right h] at hi
        have : i = τ.length := by
          have := (List.getElem?_eq_some_iff.1 hi).1
          simp at this; omega
        subst this
        simp at hi
        subst hi
        rw [Nat.zero_add]
        exact ht
    rcases Nat.lt_or_ge (T τ.length).2.len 2 with hl | hl
    · obtain ⟨τ', e1, e2, e3⟩ := enu_ok h4 n _ h.1 (snoc (0, 1) ⟨Nat.zero_le _, by simp only; omega⟩)
      exact ⟨τ', by rw [e1]; simp; omega, e2, e3⟩
    · obtain ⟨τ', e1, e2, e3⟩ := enu_ok h4 n _ h.2 (snoc (2, 4) ⟨hl, h4 _⟩)
      exact ⟨τ', by rw [e1]; simp; omega, e2, e3⟩
/-- THE BOUND: ten nodes of at most four tops, and at most 120 stacks -/
theorem cn_bound (w : Bool) (T : Nat → Tr) (hT : ∀ i s k a, (s, k, a) ∈ (T i).2.list → ∃ u, u < i ∧ (k, a) = T u) (h4 : ∀ i, (T i).2.len ≤ 4) (a b : Nat) (ha : a < 10) (hb : b < 10) (hs : sk (T a) + sk (T b) ≤ 120) : cn w (T a) (T b) ≤ 190 := by
  have h0 : FitsAt T 0 [(0, 0)] := fun i t hi => by
    cases i with
    | zero =>
      simp at hi
      subst hi
      refine ⟨Nat.zero_le _, ?_⟩
      cases hf : (T (0 + 0)).2 with
      | nil => exact Nat.le_refl _
      | cons s k x r =>
        obtain ⟨u, hu, _⟩ := hT 0 s k x (by rw [Nat.add_zero] at hf; rw [hf]; exact List.mem_cons_self ..)
        omega
    | succ i => simp at hi
  obtain ⟨τ, e1, e2, e3⟩ := enu_ok h4 9 [(0, 0)] enu_all h0
  have key := run_ok (w := w) hT h4 τ [] [] e3 (fun i t hi => by simp at hi) e2 rfl (fun m c hm => by simp at hm)
  simp only [List.length_nil, List.length_singleton] at key e1
  rcases Nat.lt_trichotomy a b with h | h | h
  · have := key b a h (by omega) (by omega)
    unfold cI kI at this
    rw [cn_comm]
    simp only at this
    omega
  · subst h
    rw [cn_eq, if_pos rfl]
    omega
  · have := key a b h (by omega) (by omega)
    unfold cI kI at this
    simp only at this
    omega
end
end Go.Proofs.Ytcbabfndfikejaa
