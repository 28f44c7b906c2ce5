/- In one: The walk of zzBuild: the choices of a table lie in memory. Condition: the table is good. The law FnEmptyPath: the package tells whether the empty stack is among those of a choice. Conditions: none but that the table reads. What reads a choice: its states, whether it is empty; the equality of rows of numbers. Condition: the choices lie in memory and are well made. The walk of Equals on choices: it is equality of trees. Condition: the choices lie in memory and are well made. The walks of Equals and what it calls. Condition: the choices lie in memory and are well made. -/
import Derived.Test.YtcbabfndfikejaaZ0
import Derived.Deep.DrawnRows
import Derived.BigQuiet
import Derived.Lib.SliceRun
import Derived.WalkSpells
import Derived.LaidEql
import Derived.LaidEqlPtr
import Derived.Deep.DeepMust
namespace Go.Proofs.Ytcbabfndfikejaa
open Go.RowKit
set_option linter.unusedSimpArgs false
def kindOf (n : Nat) : Nat := if n = 0 then 0 else if n = 1 then 1 else 2
def mkTops (bs : List (Nat × Tops)) : List Int → List Int → Tops
  | p :: ps, s :: ss => .cons s (bs.getD p.toNat (0, .nil)).1 (bs.getD p.toNat (0, .nil)).2 (mkTops bs ps ss)
  | _, _ => .nil
def build1 (bs : List (Nat × Tops)) (nd : Nd) : Nat × Tops := (kindOf nd.ss.length, mkTops bs nd.ps nd.ss)
/-- the choices of a table -/
def builtFrom (bs : List (Nat × Tops)) : List Nd → List (Nat × Tops)
  | [] => bs
  | nd :: r => builtFrom (bs ++ [build1 bs nd]) r
def built (ns : List Nd) : List (Nat × Tops) := builtFrom [] ns
theorem builtFrom_snoc (bs : List (Nat × Tops)) (ns : List Nd) (nd : Nd) : builtFrom bs (ns ++ [nd]) = builtFrom bs ns ++ [build1 (builtFrom bs ns) nd] := by
  induction ns generalizing bs with
  | nil => rfl
  | cons a r ih => exact ih _
theorem built_snoc (ns : List Nd) (nd : Nd) : built (ns ++ [nd]) = built ns ++ [build1 (built ns) nd] := builtFrom_snoc [] ns nd
theorem builtFrom_length (bs : List (Nat × Tops)) (ns : List Nd) : (builtFrom bs ns).length = bs.length + ns.length := by
  induction ns generalizing bs with
  | nil => rfl
  | cons a r ih => simp [builtFrom, ih]; omega
theorem built_length (ns : List Nd) : (built ns).length = ns.length := by simp [built, builtFrom_length]
def Own (v : Value) : Nat → Prop := fun g => v.ownBlock = some g
/-- The choices bs lie at addresses qs. -/
def Reps (w : World) (X : Nat → Prop) (bs : List (Nat × Tops)) (qs : List Addr) : Prop := ∀ (i : Nat) (q : Addr), qs[i]? = some q → ∃ kf : Nat × Tops, bs[i]? = some kf ∧ Rep w X q kf.1 kf.2
/-- What has been built of the first k nodes. -/
def BInv (ns : List Nd) (g3 : Nat) (w wr : World) (k : Nat) : Prop :=
  ∃ A c qs, wr.heap[g3]? = some (.cells #[.slice A k c] 73 (0, 0)) ∧ wr.ownsRow w.heap.size 72 1 (.slice A k c) k (ptrs qs) ∧
    Reps wr (Own (.slice A k c)) (built (ns.take k)) qs ∧ Below w.heap.size w wr
theorem grown_grown {a b c : World} {row : Option Nat} (h : a.grownBy b row) (k : b.grownBy c row) : a.grownBy c row :=
  ⟨k.os.trans h.os, k.tape.trans h.tape, k.output.trans h.output, Nat.le_trans h.size k.size, fun i hi hn => (k.block i (Nat.lt_of_lt_of_le hi h.size) hn).trans (h.block i hi hn)⟩
theorem grown_of_bel {a b : World} {row : Option Nat} (h : Below a.heap.size a b) : a.grownBy b row := ⟨h.os, h.tape, h.output, h.size, fun i hi _ => h.block i hi⟩
theorem mkTops_nil (bs : List (Nat × Tops)) (ps : List Int) : mkTops bs ps [] = .nil := by cases ps <;> rfl
theorem Reps.stay {w w' : World} {X : Nat → Prop} {bs : List (Nat × Tops)} {qs : List Addr} (h : Reps w X bs qs) (hs : Stay w w') : Reps w' X bs qs := fun i q hi => by
  obtain ⟨kf, h1, h2⟩ := h i q hi
  exact ⟨kf, h1, h2.stay hs⟩
theorem mkTops_len (bs : List (Nat × Tops)) : ∀ (ps ss : List Int), ps.length = ss.length → (mkTops bs ps ss).len = ss.length
  | [], [], _ => rfl
  | _ :: ps, _ :: ss, h => by simp [mkTops, Tops.len, mkTops_len bs ps ss (by simpa using h)]
theorem mkTops_sts (bs : List (Nat × Tops)) : ∀ (ps ss : List Int), ps.length = ss.length → (mkTops bs ps ss).sts = ss
  | [], [], _ => rfl
  | _ :: ps, _ :: ss, h => by simp [mkTops, Tops.sts, mkTops_sts bs ps ss (by simpa using h)]
/-- The pointers rs are those of the nodes ps. -/
def Picks (qs : List Addr) (ps : List Int) (rs : List Addr) : Prop := ∀ (j : Nat) (q : Addr), rs[j]? = some q → ∃ p : Nat, ps[j]? = some (p : Int) ∧ qs[p]? = some q
theorem subs_mk {w : World} {X : Nat → Prop} {bs : List (Nat × Tops)} {qs : List Addr} (hreps : Reps w X bs qs) : ∀ (ps ss : List Int) (rs : List Addr), ps.length = ss.length → rs.length = ps.length → Picks qs ps rs → Subs w X (mkTops bs ps ss) rs
  | [], [], [], _, _, _ => rfl
  | p :: ps, s :: ss, q :: rs, h1, h2, hp => by
    obtain ⟨p', hp1, hp2⟩ := hp 0 q rfl
    obtain ⟨kf, hk1, g, rfl, hk2⟩ := hreps p' q hp2
    have e : p = (p' : Int) := by simpa using hp1
    subst e
    have hd : bs.getD ((p' : Int)).toNat (0, .nil) = kf := by rw [List.getD_eq_getElem?_getD, Int.toNat_natCast, hk1]; rfl
    refine ⟨g, rs, rfl, ?_, subs_mk hreps ps ss rs (by simpa using h1) (by simpa using h2) (fun j q hj => ?_)⟩
    · rw [hd]; exact hk2
    · obtain ⟨p'', hp3, hp4⟩ := hp (j + 1) q (by simpa using hj)
      exact ⟨p'', by simpa using hp3, hp4⟩
theorem own_oldX {w : World} {base : Nat} {e : TypeId} {size n : Nat} {v : Value} {xs : List Value} (h : w.ownsRow base e size v n xs) : OldX (Own v) w := fun g hg => (h.lt g hg).2
theorem Rep.old {w : World} {X : Nat → Prop} {p : Addr} {k : Nat} {f : Tops} (h : Rep w X p k f) : p.block < w.heap.size := by
  obtain ⟨g, _, _, _, _, rfl, _, hg⟩ := h.head
  exact (Array.getElem?_eq_some_iff.1 hg).1
/-- the pointers of the first m parents, gathered -/
def ArrInv (W0 wi : World) (qs : List Addr) (ps : List Int) (m : Nat) (v : Value) : Prop :=
  ∃ rs, wi.ownsRow W0.heap.size 72 1 v m (ptrs rs) ∧ Picks qs ps rs ∧ Below W0.heap.size W0 wi
theorem Picks.snoc {qs : List Addr} {ps : List Int} {rs : List Addr} {m p : Nat} {q : Addr} (h : Picks qs ps rs) (hl : rs.length = m) (hp : ps[m]? = some (p : Int)) (hq : qs[p]? = some q) : Picks qs ps (rs ++ [q]) := by
  intro j q' hj
  rcases Nat.lt_or_ge j m with h1 | h1
  · rw [List.getElem?_append_left (by omega)] at hj
    exact h j q' hj
  · rw [List.getElem?_append_right (by omega)] at hj
    have : j = m := by
      rcases Nat.lt_or_ge m j with h2 | h2
      · rw [List.getElem?_eq_none (by simp; omega)] at hj; cases hj
      · omega
    subst this
    simp [hl] at hj
    subst hj
    exact ⟨p, hp, hq⟩
theorem BInv.step {ns : List Nd} {nd : Nd} {g3 : Nat} {w W2 w3 : World} {Av : Option Addr} {k cv : Nat} {qs : List Addr} {p : Addr} {v' : Value}
    (hg3 : w.heap.size ≤ g3) (hk : (ns.take k).length = k) (hkn : ns.take (k + 1) = ns.take k ++ [nd])
    (h3 : W2.heap[g3]? = some (.cells #[.slice Av k cv] 73 (0, 0))) (hown : W2.ownsRow w.heap.size 72 1 (.slice Av k cv) k (ptrs qs)) (hreps : Reps W2 (Own (.slice Av k cv)) (built (ns.take k)) qs)
    (hrep : Rep W2 (Own (.slice Av k cv)) p (build1 (built (ns.take k)) nd).1 (build1 (built (ns.take k)) nd).2)
    (hown3 : w3.ownsRow w.heap.size 72 1 v' (k + 1) (ptrs qs ++ [.pointer (some p)])) (hb3 : Below w.heap.size w w3) (hgr : W2.grownBy w3 (Value.slice Av k cv).ownBlock)
    (hat : v'.ownBlock = (Value.slice Av k cv).ownBlock ∨ v'.ownBlock = some W2.heap.size) : BInv ns g3 w (w3.setCell ⟨g3, 0, none⟩ v') (k + 1) := by
  have hlt3 : g3 < W2.heap.size := (Array.getElem?_eq_some_iff.1 h3).1
  have hne3 : some g3 ≠ (Value.slice Av k cv).ownBlock := by
    intro he
    rcases hown.2 with ⟨h0, _⟩ | ⟨g, cap, cur, hv, _, hg, _⟩
    · rw [h0] at he; simp [Value.ownBlock] at he
    · rw [hv] at he
      have : g3 = g := by simpa [Value.ownBlock] using he
      subst this
      rw [h3] at hg; injection hg with hg; injection hg with _ ht; cases ht
  have h33 : w3.heap[g3]? = some (.cells #[.slice Av k cv] 73 (0, 0)) := (hgr.block g3 hlt3 hne3).trans h3
  obtain ⟨A', c', rfl, _⟩ := own_slice hown3
  have hne3' : (Value.slice A' (k + 1) c').ownBlock ≠ some g3 := by
    rcases hat with e | e
    · rw [e]; exact fun h => hne3 h.symm
    · rw [e]; intro h; injection h with h; omega
  have hset : w3.grownBy (w3.setCell ⟨g3, 0, none⟩ (.slice A' (k + 1) c')) (some g3) := ⟨rfl, rfl, rfl, by simp [World.setCell], fun j _ hj => Below.heap_setCell _ _ _ _ (fun e => hj (by rw [e]))⟩
  have hmove : Move (Own (.slice Av k cv)) (Own (.slice A' (k + 1) c')) W2 (w3.setCell ⟨g3, 0, none⟩ (.slice A' (k + 1) c')) := by
    intro g cs e he hx hg
    have hgl : g < W2.heap.size := (Array.getElem?_eq_some_iff.1 hg).1
    have hgn : g ≠ g3 := by
      rintro rfl
      rw [h3] at hg; injection hg with hg; injection hg with _ ht
      subst ht
      rcases he with h | h | h <;> cases h
    refine ⟨?_, ?_⟩
    · rw [Below.heap_setCell _ _ _ _ hgn, hgr.block g hgl (fun h => hx h.symm)]; exact hg
    · intro hx'
      rcases hat with e1 | e1
      · exact hx (e1.symm.trans hx')
      · have := e1.symm.trans hx'
        injection this with this
        omega
  refine ⟨A', c', qs ++ [p], ?_, ?_, ?_, ?_⟩
  · rw [heap_setCell_same w3 g3 0 _ _ _ h33]; rfl
  · have := hown3.kept hset (.inr hne3')
    simpa [ptrs] using this
  · intro i q hi
    have hl : qs.length = k := by have := hown.1; simpa [ptrs] using this
    have hbl : (built (ns.take k)).length = k := by rw [built_length, hk]
    rw [hkn, built_snoc]
    rcases Nat.lt_or_ge i k with hik | hik
    · rw [List.getElem?_append_left (by omega)] at hi
      obtain ⟨kf, h1, h2⟩ := hreps i q hi
      exact ⟨kf, by rw [List.getElem?_append_left (by omega)]; exact h1, h2.move hmove⟩
    · have hik' : i = k := by
        rcases Nat.lt_or_ge k i with h | h
        · rw [List.getElem?_eq_none (by simp; omega)] at hi; cases hi
        · omega
      subst hik'
      rw [List.getElem?_append_right (by omega)] at hi
      simp [hl] at hi
      subst hi
      exact ⟨_, by rw [List.getElem?_append_right (by omega)]; simp [hbl], hrep.move hmove⟩
  · exact hb3.setCell hg3 _
theorem OwnTbl.tbl {w : World} {base : Nat} {e : TypeId} {v : Value} {ns : List Nd} (h : OwnTbl w base e v ns) : ∃ A c, v = .slice A ns.length c ∧ Tbl w w.heap.size A ns := by
  obtain ⟨xs, h1, h2⟩ := h
  obtain ⟨A, c, rfl, hr⟩ := own_slice h1
  refine ⟨A, c, rfl, xs, hr, fun i nd hi => ?_⟩
  obtain ⟨u, u', hu, hu', r1, r2⟩ := h2 i nd hi
  obtain ⟨A1, c1, rfl, q1⟩ := own_slice r1
  obtain ⟨A2, c2, rfl, q2⟩ := own_slice r2
  exact ⟨_, _, hu, hu', A1, c1, A2, c2, rfl, rfl, q1, q2⟩
theorem pc_info : (Try.prog.info? 72).map (fun i => (i.zero, i.size, i.bytes)) = some (some (.pointer none), 1, 8) := by kernel_rfl
/-- the closure 'at' -/
theorem at_any (g3 : Nat) (A : Option Addr) (k c : Nat) (qs : List Addr) (i : Nat) (q : Addr) (w : World) (h3 : w.heap[g3]? = some (.cells #[.slice A k c] 73 (0, 0))) (hr : Reads w w.heap.size 1 A k (ptrs qs)) (hi : i < k) (hq : qs[i]? = some q) :
    Calls Try.prog 63 #[.int .i64 i, .pointer (some ⟨g3, 0, none⟩)] w fun e w' => e = .returned (.pointer (some q)) ∧ w = w' := by
  obtain ⟨b, off, u, rfl, _, hu, hc⟩ := hr.at1 hi
  obtain ⟨q', hq', rfl⟩ := ptrs_at hu
  rw [hq] at hq'; cases hq'
  have c3 : w.cell? ⟨g3, 0, none⟩ = some (.slice (some ⟨b, off, none⟩) k c) := by rw [cell_of_row _ _ _ _ _ _ h3]; rfl
  clear h3 hr hu hq
  go_enter Try.func63, Try.ntmps63
  go_wp2
  go_ret
  exact ⟨rfl, rfl⟩
end Go.Proofs.Ytcbabfndfikejaa
namespace Go.Proofs.Ytcbabfndfikejaa
open Go.RowKit
theorem Rep.cells0 {w : World} {X : Nat → Prop} {p : Addr} {f : Tops} (h : Rep w X p 0 f) : ∃ g, p = ⟨g, 0, none⟩ ∧ f.sts = [] ∧ w.heap[g]? = some (.cells #[.int .i64 (hsh 0 f), .int .i64 0, .pointer none, .int .i64 2147483647, .slice none 0 0, .slice none 0 0] 97 (0, 0)) := by
  obtain ⟨g, hp, qs, ⟨_, _, H⟩, _⟩ := h
  rcases H with ⟨_, h2, h3⟩ | ⟨h1, _⟩ | ⟨h1, _⟩
  · exact ⟨g, hp, h2, h3⟩
  · cases h1
  · cases h1
theorem Rep.cells1 {w : World} {X : Nat → Prop} {p : Addr} {f : Tops} (h : Rep w X p 1 f) : ∃ g s q k sub, p = ⟨g, 0, none⟩ ∧ f = .cons s k sub .nil ∧ Rep w X q k sub ∧
    w.heap[g]? = some (.cells #[.int .i64 (hsh 1 f), .int .i64 1, .pointer (some q), .int .i64 s, .slice none 0 0, .slice none 0 0] 97 (0, 0)) := by
  obtain ⟨g, hp, qs, ⟨_, _, H⟩, hs⟩ := h
  rcases H with ⟨h1, _⟩ | ⟨_, s, q, h2, h3, h4⟩ | ⟨h1, _⟩
  · cases h1
  · cases f with
    | nil => cases h2
    | cons s' k sub r =>
      obtain ⟨g', qr, e1, e2, e3⟩ := hs
      have h2' : s' = s ∧ r.sts = [] := by simpa [Tops.sts] using h2
      obtain ⟨rfl, h2'⟩ := h2'
      have hr : r = .nil := by cases r with
        | nil => rfl
        | cons => simp [Tops.sts] at h2'
      subst hr
      rw [h3] at e1
      simp only [List.cons.injEq] at e1
      obtain ⟨rfl, _⟩ := e1
      exact ⟨g, s', _, k, sub, hp, rfl, ⟨g', rfl, e2⟩, h4⟩
  · cases h1
theorem Rep.cells2 {w : World} {X : Nat → Prop} {p : Addr} {f : Tops} (h : Rep w X p 2 f) : ∃ g A c A' c' qs, p = ⟨g, 0, none⟩ ∧ ¬ X g ∧ qs.length = f.len ∧ Subs w X f qs ∧
    w.heap[g]? = some (.cells #[.int .i64 (hsh 2 f), .int .i64 2, .pointer none, .int .i64 0, .slice A f.len c, .slice A' f.len c'] 97 (0, 0)) ∧ Row w X 72 A f.len (ptrs qs) ∧ Row w X 3 A' f.len (ints f.sts) := by
  obtain ⟨g, hp, qs, ⟨hx, hl, H⟩, hs⟩ := h
  rw [Tops.sts_length] at hl H
  rcases H with ⟨h1, _⟩ | ⟨h1, _⟩ | ⟨_, A, c, A', c', h2, h3, h4⟩
  · cases h1
  · cases h1
  · exact ⟨g, A, c, A', c', qs, hp, hx, hl, hs, h2, h3, h4⟩
theorem cell_of {w : World} {g : Nat} {cs : Array Value} {t : TypeId} (h : w.heap[g]? = some (.cells cs t (0, 0))) (i : Nat) : w.cell? ⟨g, i, none⟩ = cs[i]? := cell_of_row w g i cs t (0, 0) h
def BoolPost (r : Bool) (w : World) (e : Ending) (w' : World) : Prop := e = .returned (.bool r) ∧ w = w'
theorem Rep.noX {w : World} {X : Nat → Prop} {p : Addr} {k : Nat} {f : Tops} (h : Rep w X p k f) : Rep w NoX p k f := h.move fun _ _ _ _ _ hg => ⟨hg, fun hx => hx⟩
theorem built_take (ns : List Nd) (k : Nat) (nd : Nd) (h : ns[k]? = some nd) : (built ns)[k]? = some (build1 (built (ns.take k)) nd) := by
  have hlt : k < ns.length := (List.getElem?_eq_some_iff.1 h).1
  have pre : ∀ (l : List Nd) (bs : List (Nat × Tops)) (j : Nat), j < bs.length → (builtFrom bs l)[j]? = bs[j]? := by
    intro l
    induction l with
    | nil => intro bs j _; rfl
    | cons a r ih =>
      intro bs j hj
      show (builtFrom (bs ++ [build1 bs a]) r)[j]? = _
      rw [ih _ _ (by simp; omega), List.getElem?_append_left hj]
  have split : ∀ (l : List Nd) (m : List Nd) (bs : List (Nat × Tops)), builtFrom bs (l ++ m) = builtFrom (builtFrom bs l) m := by
    intro l
    induction l with
    | nil => intro m bs; rfl
    | cons a r ih => intro m bs; exact ih m _
  have e : built ns = builtFrom (built (ns.take (k + 1))) (ns.drop (k + 1)) := by
    unfold built
    rw [← split, List.take_append_drop]
  have hl : (built (ns.take (k + 1))).length = k + 1 := by rw [built_length, List.length_take]; omega
  rw [e, pre _ _ _ (by omega), take_snoc' ns k nd h, built_snoc, List.getElem?_append_right (by rw [built_length, List.length_take]; omega)]
  rw [built_length, List.length_take, Nat.min_eq_left (by omega), Nat.sub_self]
  rfl
end Go.Proofs.Ytcbabfndfikejaa
namespace Go.Proofs.Ytcbabfndfikejaa
open Go.RowKit
set_option linter.unusedSimpArgs false
/-- From w to w' only draws. -/
def Dr (w w' : World) : Prop := ∃ n, w' = w.drewN n
theorem Dr.refl (w : World) : Dr w w := ⟨0, rfl⟩
theorem Dr.drewN {w a : World} (h : Dr w a) (n : Nat) : Dr w (a.drewN n) := by obtain ⟨m, rfl⟩ := h; exact ⟨m + n, World.drewN_drewN ..⟩
theorem Dr.drew {w a : World} (h : Dr w a) : Dr w a.drew := h.drewN 1
theorem Dr.trans {a b c : World} (h : Dr a b) (k : Dr b c) : Dr a c := by obtain ⟨m, rfl⟩ := k; exact h.drewN m
theorem Dr.below {w w' : World} (h : Dr w w') : Below w.heap.size w w' := by obtain ⟨n, rfl⟩ := h; exact ⟨rfl, rfl, rfl, Nat.le_refl _, fun _ _ => rfl⟩
theorem Dr.stay {w w' : World} (h : Dr w w') : Stay w w' := Stay.of_below h.below
theorem Dr.heap {w w' : World} (h : Dr w w') : w'.heap = w.heap := by obtain ⟨n, rfl⟩ := h; rfl
/-- A truth value is handed back; there were but draws. -/
def EqPost (r : Bool) (w : World) (e : Ending) (w' : World) : Prop := e = .returned (.bool r) ∧ Dr w w'
theorem EqPost.quiet {f : FuncId} {args : Array Value} {w : World} {n : Nat} {r : Bool} (h : Calls Try.prog f args (w.drewN n) (EqPost r (w.drewN n))) : Calls Try.prog f args (w.drewN n) fun e w'' => e = .returned (.bool r) ∧ ∃ m, w'' = w.drewN m :=
  Calls.quiet_of (h.mono fun _ _ ⟨a, b⟩ => ⟨a, b⟩)
/-- The kind of a choice fits its tops. -/
def kindOk (k : Nat) (f : Tops) : Prop := (k = 0 ∧ f = .nil) ∨ (k = 1 ∧ f.len = 1) ∨ (k = 2 ∧ 0 < f.len ∧ f.len ≤ 1000)
def Tops.wf : Tops → Prop
  | .nil => True
  | .cons s k sub r => (0 ≤ s ∧ s ≤ 1000) ∧ kindOk k sub ∧ sub.wf ∧ r.wf
def Wf (k : Nat) (f : Tops) : Prop := kindOk k f ∧ f.wf
theorem Tops.wf_sts : ∀ {f : Tops}, f.wf → ∀ s ∈ f.sts, 0 ≤ s ∧ s ≤ 1000
  | .nil, _, s, hs => by simp [Tops.sts] at hs
  | .cons s k sub r, h, x, hx => by
    simp only [Tops.sts, List.mem_cons] at hx
    rcases hx with rfl | hx
    · exact h.1
    · exact Tops.wf_sts h.2.2.2 x hx
theorem isEmpty0 (X : Nat → Prop) (p : Addr) (f : Tops) (w : World) (h : Rep w X p 0 f) : Calls Try.prog 69 #[.pointer (some p)] w (BoolPost true w) := by
  obtain ⟨g, rfl, _, hg⟩ := h.cells0
  have c1 : w.cell? ⟨g, 1, none⟩ = some (.int .i64 0) := cell_of hg 1
  clear h hg
  go_enter Try.func69, Try.ntmps69
  go_wp2
  go_ret
  exact ⟨rfl, rfl⟩
theorem isEmpty1 (X : Nat → Prop) (p : Addr) (f : Tops) (w : World) (h : Rep w X p 1 f) : Calls Try.prog 69 #[.pointer (some p)] w (BoolPost false w) := by
  obtain ⟨g, s, q, k, sub, rfl, rfl, _, hg⟩ := h.cells1
  have c1 : w.cell? ⟨g, 1, none⟩ = some (.int .i64 1) := cell_of hg 1
  clear h hg
  go_enter Try.func69, Try.ntmps69
  go_wp2
  go_ret
  exact ⟨rfl, rfl⟩
theorem isEmpty2 (X : Nat → Prop) (p : Addr) (f : Tops) (w : World) (h : Rep w X p 2 f) (hl : 0 < f.len) (hs : ∀ s ∈ f.sts, 0 ≤ s ∧ s ≤ 1000) : Calls Try.prog 69 #[.pointer (some p)] w (BoolPost false w) := by
  obtain ⟨g, A, c, A', c', qs, rfl, _, _, _, hg, _, hr⟩ := h.cells2
  obtain ⟨b, off, u, rfl, _, hu, hc⟩ := hr.reads.at1 (k := 0) (by omega)
  obtain ⟨s, hs1, rfl⟩ := ints_at hu
  have hs' : s ≤ 1000 := (hs s (List.mem_of_getElem? hs1)).2
  have c1 : w.cell? ⟨g, 1, none⟩ = some (.int .i64 2) := cell_of hg 1
  have c5 : w.cell? ⟨g, 5, none⟩ = some (.slice (some ⟨b, off, none⟩) f.len c') := cell_of hg 5
  rw [Nat.add_zero] at hc
  have hne : (s == 2147483647) = false := by rw [beq_eq_false_iff_ne]; omega
  clear h hg hs hs' hs1 hu hr
  go_enter Try.func69, Try.ntmps69
  go_wp2
  go_ret
  exact ⟨rfl, rfl⟩
/-- isEmpty -/
theorem isEmpty_any (X : Nat → Prop) (p : Addr) (k : Nat) (f : Tops) (w : World) (h : Rep w X p k f) (hw : Wf k f) : Calls Try.prog 69 #[.pointer (some p)] w (BoolPost (decide (k = 0)) w) := by
  rcases hw.1 with ⟨rfl, rfl⟩ | ⟨rfl, h1⟩ | ⟨rfl, h1, h2⟩
  · exact isEmpty0 X p _ w h
  · exact isEmpty1 X p _ w h
  · exact isEmpty2 X p _ w h h1 (Tops.wf_sts hw.2)
theorem getReturnState1 (X : Nat → Prop) (p : Addr) (s : Int) (k : Nat) (sub : Tops) (i : Int) (w : World) (h : Rep w X p 1 (.cons s k sub .nil)) : Calls Try.prog 67 #[.pointer (some p), .int .i64 i] w (IntPost s w) := by
  obtain ⟨g, s', q, k', sub', rfl, he, _, hg⟩ := h.cells1
  cases he
  have c1 : w.cell? ⟨g, 1, none⟩ = some (.int .i64 1) := cell_of hg 1
  have c3 : w.cell? ⟨g, 3, none⟩ = some (.int .i64 s) := cell_of hg 3
  clear h hg
  go_enter Try.func67, Try.ntmps67
  go_wp2
  go_ret
  exact ⟨rfl, rfl⟩
theorem eqlNil22 (w : World) (a : Option Addr) (n c n' c' : Nat) : (binOp .eql 22 (.slice a n c) (.slice none n' c')).run Try.prog w = .ok (.bool a.isNone) w := Lib.run_eql_slice_nil w 22 _ a n c n' c' Try.underlying22
theorem eqlNil73 (w : World) (a : Option Addr) (n c n' c' : Nat) : (binOp .eql 73 (.slice a n c) (.slice none n' c')).run Try.prog w = .ok (.bool a.isNone) w := Lib.run_eql_slice_nil w 73 _ a n c n' c' Try.underlying73
set_option maxHeartbeats 1000000 in
/-- the equality of rows of numbers that have some -/
theorem intSlicesEqual_any (A A' : Option Addr) (c c' : Nat) (L M : List Int) (w : World) (h : Reads w w.heap.size 1 A L.length (ints L)) (h' : Reads w w.heap.size 1 A' M.length (ints M)) (h0 : 0 < L.length) (h0' : 0 < M.length) (hm : L.length ≤ 1000) (hm' : M.length ≤ 1000) :
    Calls Try.prog 92 #[.slice A L.length c, .slice A' M.length c'] w (BoolPost (decide (L = M)) w) := by
  obtain ⟨b, off, u, rfl, _, _, _⟩ := h.at1 h0
  obtain ⟨b', off', u', rfl, _, _, _⟩ := h'.at1 h0'
  have H := Lib.hid h
  have H' := Lib.hid h'
  clear h h'
  have q1 := eqlNil22
  have hn1 : ((L.length : Int) == 0) = false := by rw [beq_eq_false_iff_ne]; omega
  have hn2 : ((M.length : Int) == 0) = false := by rw [beq_eq_false_iff_ne]; omega
  by_cases hll : L.length = M.length
  · have HLL := Lib.hid hll
    have hne : ((L.length : Int) != (M.length : Int)) = false := by rw [bne_eq_false_iff_eq]; omega
    clear hll
    go_enter Try.func92, Try.ntmps92
    go_wp2_with fail
    go_loop [44] (fun i => ∃ k : Nat, k ≤ L.length ∧ i = .int .i64 k ∧ Hid (L.take k = M.take k)) (fun i => L.length - (intOf i).toNat)
    case atStart => exact ⟨0, Nat.zero_le _, rfl, Lib.hid rfl⟩
    case round =>
      obtain ⟨k, hk, rfl, HT⟩ := hrel
      by_cases hlt : k < L.length
      · have hlt' : k < M.length := by have := HLL.out; omega
        obtain ⟨b1, off1, u1, e1, _, hu1, hc1⟩ := H.out.at1 hlt
        obtain ⟨b2, off2, u2, e2, _, hu2, hc2⟩ := H'.out.at1 hlt'
        cases e1; cases e2
        obtain ⟨x, hx, rfl⟩ := ints_at hu1
        obtain ⟨y, hy, rfl⟩ := ints_at hu2
        have HX := Lib.hid hx
        have HY := Lib.hid hy
        clear hu1 hu2 hx hy
        by_cases hxy : x = y
        · subst hxy
          go_wp2_with fail
          go_round
          case rel => exact ⟨k + 1, by omega, by go_num, Lib.hid (by rw [take_snoc' _ _ _ HX.out, take_snoc' _ _ _ HY.out, HT.out])⟩
          case measure => simp [intOf]; omega
        · have hxy' : (x != y) = true := by rw [bne_iff_ne]; exact hxy
          have HN := Lib.hid (show decide (L = M) = false from decide_eq_false (fun e => hxy (by have := HX.out; rw [e, HY.out] at this; cases this; rfl)))
          clear hxy
          go_wp2_with fail
          go_ret
          exact ⟨by rw [HN.out]; rfl, rfl⟩
      · have HN := Lib.hid (show decide (L = M) = true from decide_eq_true (by
          have := HT.out
          rw [List.take_of_length_le (by omega), List.take_of_length_le (by have := HLL.out; omega)] at this
          exact this))
        go_wp2_with fail
        go_ret
        exact ⟨by rw [HN.out]; rfl, rfl⟩
  · have hne : ((L.length : Int) != (M.length : Int)) = true := by rw [bne_iff_ne]; omega
    have HN := Lib.hid (show decide (L = M) = false from decide_eq_false (fun e => hll (by rw [e])))
    clear hll
    go_enter Try.func92, Try.ntmps92
    go_wp2_with fail
    go_ret
    exact ⟨by rw [HN.out]; rfl, rfl⟩
end Go.Proofs.Ytcbabfndfikejaa
namespace Go.Proofs.Ytcbabfndfikejaa
open Go.RowKit
set_option linter.unusedSimpArgs false
/-! a choice's address tells the choice -/
theorem Row.unique {w : World} {X X' : Nat → Prop} {e : TypeId} {A : Option Addr} {n : Nat} {xs ys : List Value} (h : Row w X e A n xs) (h' : Row w X' e A n ys) : xs = ys := by
  rcases Nat.eq_zero_or_pos n with h0 | h0
  · rw [List.eq_nil_of_length_eq_zero (h.1.trans h0), List.eq_nil_of_length_eq_zero (h'.1.trans h0)]
  · obtain ⟨g, off, cs, rfl, _, hg, hc⟩ := h.2 h0
    obtain ⟨g', off', cs', he, _, hg', hc'⟩ := h'.2 h0
    cases he
    rw [hg] at hg'; cases hg'
    apply List.ext_getElem?
    intro j
    rcases Nat.lt_or_ge j n with hj | hj
    · have e1 := List.getElem?_eq_getElem (l := xs) (i := j) (by have := h.1; omega)
      have e2 := List.getElem?_eq_getElem (l := ys) (i := j) (by have := h'.1; omega)
      rw [e1, e2]
      have a1 := hc j _ e1
      have a2 := hc' j _ e2
      rw [a1] at a2
      exact a2
    · rw [List.getElem?_eq_none (by have := h.1; omega), List.getElem?_eq_none (by have := h'.1; omega)]
theorem ints_inj {a b : List Int} (h : ints a = ints b) : a = b := by
  induction a generalizing b with
  | nil => cases b with
    | nil => rfl
    | cons => simp [ints] at h
  | cons x t ih => cases b with
    | nil => simp [ints] at h
    | cons y s =>
      simp only [ints, List.map_cons, List.cons.injEq, Value.int.injEq, true_and] at h
      rw [h.1, ih h.2]
theorem ptrs_inj {a b : List Addr} (h : ptrs a = ptrs b) : a = b := by
  induction a generalizing b with
  | nil => cases b with
    | nil => rfl
    | cons => simp [ptrs] at h
  | cons x t ih => cases b with
    | nil => simp [ptrs] at h
    | cons y s =>
      simp only [ptrs, List.map_cons, List.cons.injEq, Value.pointer.injEq, Option.some.injEq] at h
      rw [h.1, ih h.2]
theorem Shape.unique {w : World} {X X' : Nat → Prop} {g k k' : Nat} {h h' : Int} {ss ss' : List Int} {qs qs' : List Addr} (H : Shape w X g k h ss qs) (H' : Shape w X' g k' h' ss' qs') : k = k' ∧ ss = ss' ∧ qs = qs' := by
  obtain ⟨_, hl, H⟩ := H
  obtain ⟨_, hl', H'⟩ := H'
  rcases H with ⟨rfl, rfl, e⟩ | ⟨rfl, s, q, rfl, rfl, e⟩ | ⟨rfl, A, c, A', c', e, r1, r2⟩ <;>
  rcases H' with ⟨rfl, rfl, e'⟩ | ⟨rfl, s', q', rfl, rfl, e'⟩ | ⟨rfl, B, d, B', d', e', t1, t2⟩ <;>
  rw [e] at e' <;> simp only [Option.some.injEq, Obj.cells.injEq, Array.mk.injEq, List.cons.injEq, Value.int.injEq, Value.pointer.injEq, Value.slice.injEq, true_and, and_true, reduceCtorEq, false_and, and_false] at e'
  all_goals first
    | (exfalso; have := e'.2.1; omega)
    | exact ⟨rfl, rfl, by rw [List.eq_nil_of_length_eq_zero hl, List.eq_nil_of_length_eq_zero hl']⟩
    | (obtain ⟨_, e1, e2⟩ := e'
       subst e1 e2
       exact ⟨rfl, rfl, rfl⟩)
    | (obtain ⟨_, ⟨rfl, hn, rfl⟩, ⟨rfl, _, rfl⟩⟩ := e'
       rw [← hn] at t1 t2
       exact ⟨rfl, ints_inj (r2.unique t2), ptrs_inj (r1.unique t1)⟩)
theorem Subs.unique {w : World} {X X' : Nat → Prop} : ∀ (f f' : Tops) (qs : List Addr), f.sts = f'.sts → Subs w X f qs → Subs w X' f' qs → f = f'
  | .nil, .nil, _, _, _, _ => rfl
  | .nil, .cons .., _, h, _, _ => by simp [Tops.sts] at h
  | .cons .., .nil, _, h, _, _ => by simp [Tops.sts] at h
  | .cons s k sub r, .cons s' k' sub' r', qs, h, ⟨g, qr, e1, ⟨qs1, h1, h2⟩, h3⟩, ⟨g', qr', e1', ⟨qs1', h1', h2'⟩, h3'⟩ => by
    simp only [Tops.sts, List.cons.injEq] at h
    rw [e1] at e1'
    simp only [List.cons.injEq, Addr.mk.injEq, and_true] at e1'
    obtain ⟨rfl, rfl⟩ := e1'
    obtain ⟨rfl, e2, rfl⟩ := h1.unique h1'
    rw [h.1, Subs.unique sub sub' qs1 e2 h2 h2', Subs.unique r r' qr h.2 h3 h3']
theorem Rep.unique {w : World} {X X' : Nat → Prop} {p : Addr} {k k' : Nat} {f f' : Tops} (h : Rep w X p k f) (h' : Rep w X' p k' f') : k = k' ∧ f = f' := by
  obtain ⟨g, rfl, qs, h1, h2⟩ := h
  obtain ⟨g', e, qs', h1', h2'⟩ := h'
  cases e
  obtain ⟨rfl, e2, rfl⟩ := h1.unique h1'
  exact ⟨rfl, Subs.unique f f' qs e2 h2 h2'⟩
/-! plain facts on trees -/
def Tops.size : Tops → Nat
  | .nil => 0
  | .cons _ _ sub r => sub.size + r.size + 1
theorem Tops.at_size : ∀ {f : Tops} {i : Nat} {s : Int} {k : Nat} {sub : Tops}, f.at? i = some (s, k, sub) → sub.size < f.size
  | .nil, _, _, _, _, h => by simp [Tops.at?] at h
  | .cons _ _ _ _, 0, _, _, _, h => by simp [Tops.at?] at h; obtain ⟨_, _, rfl⟩ := h; simp only [Tops.size]; omega
  | .cons _ _ _ r, i + 1, s, k, sub, h => by have := Tops.at_size (f := r) (i := i) h; simp only [Tops.size]; omega
theorem Tops.at_wf : ∀ {f : Tops} {i : Nat} {s : Int} {k : Nat} {sub : Tops}, f.wf → f.at? i = some (s, k, sub) → Wf k sub
  | .nil, _, _, _, _, _, h => by simp [Tops.at?] at h
  | .cons _ _ _ _, 0, _, _, _, hw, h => by simp [Tops.at?] at h; obtain ⟨_, rfl, rfl⟩ := h; exact ⟨hw.2.1, hw.2.2.1⟩
  | .cons _ _ _ r, i + 1, s, k, sub, hw, h => Tops.at_wf (f := r) (i := i) hw.2.2.2 h
theorem Tops.ext_at : ∀ {f f' : Tops}, f.len = f'.len → (∀ j, j < f.len → f.at? j = f'.at? j) → f = f'
  | .nil, .nil, _, _ => rfl
  | .nil, .cons .., h, _ => by simp [Tops.len] at h
  | .cons .., .nil, h, _ => by simp [Tops.len] at h
  | .cons s k sub r, .cons s' k' sub' r', h, ha => by
    have h0 := ha 0 (by simp [Tops.len])
    simp only [Tops.at?, Option.some.injEq, Prod.mk.injEq] at h0
    obtain ⟨rfl, rfl, rfl⟩ := h0
    rw [Tops.ext_at (f := r) (f' := r') (by simpa [Tops.len] using h) (fun j hj => ha (j + 1) (by simp only [Tops.len]; omega))]
theorem comp72 : (Try.prog.info? 72).map (·.comparable) = some true := by kernel_rfl
theorem size97 : (Try.prog.info? 97).map (·.size) = some 6 := by kernel_rfl
theorem eqI_same (w : World) (a : Addr) : (binOp .eql 99 (.iface 72 (.pointer (some a))) (.iface 72 (.pointer (some a)))).run Try.prog w = .ok (.bool true) w := by
  have h1 := comp72
  have h2 := size97
  cases e1 : Try.prog.info? 72 with
  | none => rw [e1] at h1; cases h1
  | some i =>
    cases e2 : Try.prog.info? 97 with
    | none => rw [e2] at h2; cases h2
    | some j => exact run_eql_iface_ptr_same w a Try.underlying99 Try.underlying72 e1 (by rw [e1] at h1; simpa using h1) e2
theorem eqI_other (w : World) {a b : Addr} {ca cb : Array Value} (hne : a ≠ b) (ha : w.heap[a.block]? = some (.cells ca 97 (0, 0))) (hb : w.heap[b.block]? = some (.cells cb 97 (0, 0))) :
    (binOp .eql 99 (.iface 72 (.pointer (some a))) (.iface 72 (.pointer (some b)))).run Try.prog w = .ok (.bool false) w := by
  have h1 := comp72
  have h2 := size97
  cases e1 : Try.prog.info? 72 with
  | none => rw [e1] at h1; cases h1
  | some i =>
    cases e2 : Try.prog.info? 97 with
    | none => rw [e2] at h2; cases h2
    | some j => exact run_eql_iface_ptr_other w Try.underlying99 Try.underlying72 e1 (by rw [e1] at h1; simpa using h1) e2 (by rw [e2] at h2; simp at h2; omega) hne ha hb
end Go.Proofs.Ytcbabfndfikejaa
namespace Go.Proofs.Ytcbabfndfikejaa
open Go.RowKit
set_option linter.unusedSimpArgs false
def eqB (k : Nat) (f : Tops) (k' : Nat) (f' : Tops) : Bool := decide (k = k' ∧ f = f')
theorem eqB_true {k k' : Nat} {f f' : Tops} (h : k = k' ∧ f = f') : eqB k f k' f' = true := decide_eq_true h
theorem eqB_false {k k' : Nat} {f f' : Tops} (h : ¬ (k = k' ∧ f = f')) : eqB k f k' f' = false := decide_eq_false h
theorem assert72 (w : World) (v : Value) : (Instr.typeAssert (.iface 72 v) 99 72 false).run Try.prog w = .ok v w := by
  simp [Instr.typeAssert, run_underlying Try.underlying72]
/-- Equals, up to a size -/
def EqTo (n : Nat) : Prop := ∀ (f : Tops) (k : Nat) (f' : Tops) (k' : Nat) (p q : Addr) (w : World), f.size < n → Rep w NoX p k f → Rep w NoX q k' f' → Wf k f → Wf k' f' →
  Calls Try.prog 52 #[.pointer (some p), .iface 72 (.pointer (some q))] w (EqPost (eqB k f k' f') w)
set_option maxHeartbeats 1000000 in
theorem pcSliceEqual_any (n : Nat) (IH : EqTo n) (A A' : Option Addr) (c c' : Nat) (f f' : Tops) (qs qs' : List Addr) (w : World) (hsz : f.size ≤ n) (hl : f.len = f'.len) (h0 : 0 < f.len) (hm : f.len ≤ 1000) (hss : f.sts = f'.sts) (hw : f.wf) (hw' : f'.wf)
    (h : Row w NoX 72 A f.len (ptrs qs)) (h' : Row w NoX 72 A' f.len (ptrs qs')) (hs : Subs w NoX f qs) (hs' : Subs w NoX f' qs') :
    Calls Try.prog 93 #[.slice A f.len c, .slice A' f.len c'] w (EqPost (decide (f = f')) w) := by
  obtain ⟨b, off, u, rfl, _, _, _⟩ := h.reads.at1 h0
  obtain ⟨b', off', u', rfl, _, _, _⟩ := h'.reads.at1 h0
  have H := Lib.hid h
  have H' := Lib.hid h'
  have HS := Lib.hid hs
  have HS' := Lib.hid hs'
  have HL := Lib.hid hl
  have HSS := Lib.hid hss
  have HW := Lib.hid hw
  have HW' := Lib.hid hw'
  have HI := Lib.hid IH
  clear h h' hs hs' hl hss hw hw' IH
  have q1 := eqlNil73
  have hn1 : ((f.len : Int) == 0) = false := by rw [beq_eq_false_iff_ne]; omega
  have hne : ((f.len : Int) != (f.len : Int)) = false := by rw [bne_eq_false_iff_eq]
  generalize hln : f.len = ln at *
  have HLN := Lib.hid hln
  clear hln
  go_enter Try.func93, Try.ntmps93
  go_wp2_with fail
  go_loopw [44] (fun i wr => ∃ k : Nat, k ≤ ln ∧ i = .int .i64 k ∧ Hid (∀ j, j < k → f.at? j = f'.at? j) ∧ Hid (Dr w wr)) (fun i _ => ln - (intOf i).toNat)
  case atStart => exact ⟨0, Nat.zero_le _, rfl, Lib.hid (fun j hj => absurd hj (by omega)), Lib.hid (Dr.refl _)⟩
  case round =>
    obtain ⟨k, hk, rfl, HT, HD⟩ := hrel
    by_cases hlt : k < ln
    · obtain ⟨b1, off1, u1, e1, _, hu1, hc1⟩ := ((H.out.stay HD.out.stay (.inr (.inl rfl))).reads).at1 hlt
      obtain ⟨b2, off2, u2, e2, _, hu2, hc2⟩ := ((H'.out.stay HD.out.stay (.inr (.inl rfl))).reads).at1 hlt
      cases e1; cases e2
      obtain ⟨x, hx, rfl⟩ := ptrs_at hu1
      obtain ⟨y, hy, rfl⟩ := ptrs_at hu2
      obtain ⟨s, k1, sub, ha, hr⟩ := Subs.at_ f qs k x HS.out hx
      obtain ⟨s', k1', sub', ha', hr'⟩ := Subs.at_ f' qs' k y HS'.out hy
      have HR := Lib.hid (hr.stay HD.out.stay)
      have HR' := Lib.hid (hr'.stay HD.out.stay)
      have HA := Lib.hid ha
      have HA' := Lib.hid ha'
      have HEQ := Lib.hid (HI.out sub k1 sub' k1' x y wr (by have := Tops.at_size ha; omega) HR.out HR'.out (Tops.at_wf HW.out ha) (Tops.at_wf HW'.out ha'))
      have HST := Lib.hid (show s = s' by
        have e1 := (Tops.at_hs _ _ _ _ _ ha).2
        have e2 := (Tops.at_hs _ _ _ _ _ ha').2
        rw [HSS.out, e2] at e1; cases e1; rfl)
      clear hu1 hu2 hx hy ha ha' hr hr'
      go_wp2_with fail
      refine HEQ.out.mono ?_
      rintro e w' ⟨rfl, hd⟩
      have HD' := Lib.hid (HD.out.trans hd)
      clear hd
      by_cases hxy : k1 = k1' ∧ sub = sub'
      · have HN := Lib.hid (show eqB k1 sub k1' sub' = true from eqB_true hxy)
        have HX := Lib.hid hxy
        clear hxy
        rw [HN.out]
        go_wp2_with fail
        go_roundw
        case rel => exact ⟨k + 1, by omega, by go_num, Lib.hid (fun j hj => by
          rcases Nat.lt_or_ge j k with h1 | h1
          · exact HT.out j h1
          · obtain rfl : j = k := by omega
            rw [HA.out, HA'.out, HST.out, HX.out.1, HX.out.2]), HD'⟩
        case measure => simp [intOf]; omega
      · have HN := Lib.hid (show eqB k1 sub k1' sub' = false from eqB_false hxy)
        have HX := Lib.hid (show decide (f = f') = false from decide_eq_false (fun e => hxy (by
          have e1 := HA.out
          rw [e, HA'.out] at e1
          cases e1; exact ⟨rfl, rfl⟩)))
        clear hxy
        rw [HN.out]
        go_wp2_with fail
        go_ret
        exact ⟨by rw [HX.out]; rfl, HD'.out⟩
    · have HX := Lib.hid (show decide (f = f') = true from decide_eq_true (Tops.ext_at (HLN.out.trans HL.out) (fun j hj => HT.out j (by rw [HLN.out] at hj; omega))))
      go_wp2_with fail
      go_ret
      exact ⟨by rw [HX.out]; rfl, HD.out⟩
set_option maxRecDepth 20000 in
set_option maxHeartbeats 2000000 in
theorem singleEquals_any (n : Nat) (IH : EqTo n) (s : Int) (kk : Nat) (sub : Tops) (f' : Tops) (k' : Nat) (p q : Addr) (w : World) (hsz : sub.size < n) (h : Rep w NoX p 1 (.cons s kk sub .nil)) (h' : Rep w NoX q k' f') (hw : Wf kk sub) (hw' : Wf k' f') :
    Calls Try.prog 70 #[.pointer (some p), .iface 72 (.pointer (some q))] w (EqPost (eqB 1 (.cons s kk sub .nil) k' f') w) := by
  obtain ⟨g, s0, q1, k0, sub0, rfl, he, hsub, hg⟩ := h.cells1
  cases he
  have c0 : w.cell? ⟨g, 0, none⟩ = some (.int .i64 (hsh 1 (.cons s kk sub .nil))) := cell_of hg 0
  have c2 : w.cell? ⟨g, 2, none⟩ = some (.pointer (some q1)) := cell_of hg 2
  have c3 : w.cell? ⟨g, 3, none⟩ = some (.int .i64 s) := cell_of hg 3
  have HSUB := Lib.hid hsub
  have HW := Lib.hid hw
  have HI := Lib.hid IH
  clear hg h hw hsub IH
  have qa := assert72
  rcases hw'.1 with ⟨rfl, rfl⟩ | ⟨rfl, hl⟩ | ⟨rfl, hl, hl2⟩
  · obtain ⟨g', rfl, _, hg'⟩ := h'.cells0
    have d1 : w.cell? ⟨g', 1, none⟩ = some (.int .i64 0) := cell_of hg' 1
    clear h' hg' hw'
    go_enter Try.func70, Try.ntmps70
    go_wp2_with fail
    go_ret
    exact ⟨by rw [eqB_false (by simp)]; rfl, Dr.refl _⟩
  · obtain ⟨g', s', q1', kk', sub', rfl, rfl, hsub', hg'⟩ := h'.cells1
    have d0 : w.cell? ⟨g', 0, none⟩ = some (.int .i64 (hsh 1 (.cons s' kk' sub' .nil))) := cell_of hg' 0
    have d1 : w.cell? ⟨g', 1, none⟩ = some (.int .i64 1) := cell_of hg' 1
    have d2 : w.cell? ⟨g', 2, none⟩ = some (.pointer (some q1')) := cell_of hg' 2
    have d3 : w.cell? ⟨g', 3, none⟩ = some (.int .i64 s') := cell_of hg' 3
    have HR' := Lib.hid h'
    have HSUB' := Lib.hid hsub'
    have HW' := Lib.hid (show Wf kk' sub' from ⟨hw'.2.2.1, hw'.2.2.2.1⟩)
    clear h' hg' hsub' hw' hl
    by_cases hh : hsh 1 (.cons s kk sub .nil) = hsh 1 (.cons s' kk' sub' .nil)
    · have hh' : (hsh 1 (.cons s kk sub .nil) != hsh 1 (.cons s' kk' sub' .nil)) = false := by rw [bne_eq_false_iff_eq]; exact hh
      generalize hsh 1 (.cons s kk sub .nil) = H1 at *
      clear hh
      go_enter Try.func70, Try.ntmps70
      go_wp2_with fail
      go_quiet ((go_at_call 53; exact Calls.quiet_of_same ((Hash_any _ _ _ _ _ (HR'.out.stay (Dr.refl _ |>.drewN _).stay)).mono fun _ _ ⟨a, b⟩ => ⟨a, b.symm⟩)))
      go_wp2_with fail
      obtain ⟨wo, hwo⟩ : ∃ wo : World, wo = w.drewN nq := ⟨_, rfl⟩
      have HD := Lib.hid (show Dr w wo from ⟨nq, hwo⟩)
      have c2 : wo.cell? ⟨g, 2, none⟩ = some (.pointer (some q1)) := by rw [hwo]; exact c2
      have c3 : wo.cell? ⟨g, 3, none⟩ = some (.int .i64 s) := by rw [hwo]; exact c3
      have d2 : wo.cell? ⟨g', 2, none⟩ = some (.pointer (some q1')) := by rw [hwo]; exact d2
      rw [← hwo]
      clear hwo
      by_cases hss : s = s'
      · have hss' : (s != s') = false := by rw [bne_eq_false_iff_eq]; exact hss
        have HSS := Lib.hid hss
        clear hss
        go_quiet ((go_at_call 67; exact Calls.quiet_of_same ((getReturnState1 _ _ _ _ _ _ _ (HR'.out.stay (HD.out.drewN _).stay)).mono fun _ _ ⟨a, b⟩ => ⟨a, b.symm⟩)))
        go_wp2_with fail
        obtain ⟨w2, hw2⟩ : ∃ w2 : World, w2 = wo.drewN nq := ⟨_, rfl⟩
        have HD2 := Lib.hid (show Dr w w2 from HD.out.trans ⟨nq, hw2⟩)
        have c2 : w2.cell? ⟨g, 2, none⟩ = some (.pointer (some q1)) := by rw [hw2]; exact c2
        have d2 : w2.cell? ⟨g', 2, none⟩ = some (.pointer (some q1')) := by rw [hw2]; exact d2
        rw [← hw2]
        clear hw2
        go_wp2_with fail
        go_quiet ((go_at_call 52; exact EqPost.quiet (HI.out sub kk sub' kk' q1 q1' _ hsz (HSUB.out.stay (HD2.out.drewN _).stay) (HSUB'.out.stay (HD2.out.drewN _).stay) HW.out HW'.out)))
        go_wp2_with fail
        go_ret
        refine ⟨?_, HD2.out.drewN _⟩
        have e : eqB kk sub kk' sub' = eqB 1 (.cons s kk sub .nil) 1 (.cons s' kk' sub' .nil) := by
          unfold eqB
          rw [Bool.eq_iff_iff]
          simp [HSS.out]
        rw [← e]; rfl
      · have hss' : (s != s') = true := by rw [bne_iff_ne]; exact hss
        have HN := Lib.hid (show eqB 1 (.cons s kk sub .nil) 1 (.cons s' kk' sub' .nil) = false from eqB_false (fun e => hss (by have := e.2; cases this; rfl)))
        clear hss
        go_quiet ((go_at_call 67; exact Calls.quiet_of_same ((getReturnState1 _ _ _ _ _ _ _ (HR'.out.stay (HD.out.drewN _).stay)).mono fun _ _ ⟨a, b⟩ => ⟨a, b.symm⟩)))
        go_wp2_with fail
        go_ret
        exact ⟨by rw [HN.out]; rfl, HD.out.drewN _⟩
    · have hh' : (hsh 1 (.cons s kk sub .nil) != hsh 1 (.cons s' kk' sub' .nil)) = true := by rw [bne_iff_ne]; exact hh
      have HN := Lib.hid (show eqB 1 (.cons s kk sub .nil) 1 (.cons s' kk' sub' .nil) = false from eqB_false (fun e => hh (by rw [e.2])))
      generalize hsh 1 (.cons s kk sub .nil) = H1 at *
      clear hh
      go_enter Try.func70, Try.ntmps70
      go_wp2_with fail
      go_quiet ((go_at_call 53; exact Calls.quiet_of_same ((Hash_any _ _ _ _ _ (HR'.out.stay (Dr.refl _ |>.drewN _).stay)).mono fun _ _ ⟨a, b⟩ => ⟨a, b.symm⟩)))
      go_wp2_with fail
      go_ret
      exact ⟨by rw [HN.out]; rfl, (Dr.refl _).drewN _⟩
  · obtain ⟨g', A, c, A', c', qs, rfl, _, _, _, hg', _, _⟩ := h'.cells2
    have d1 : w.cell? ⟨g', 1, none⟩ = some (.int .i64 2) := cell_of hg' 1
    clear h' hg' hw'
    go_enter Try.func70, Try.ntmps70
    go_wp2_with fail
    go_ret
    exact ⟨by rw [eqB_false (by simp)]; rfl, Dr.refl _⟩
set_option maxRecDepth 20000 in
set_option maxHeartbeats 2000000 in
theorem arrayEquals_any (n : Nat) (IH : EqTo n) (f : Tops) (f' : Tops) (k' : Nat) (p q : Addr) (w : World) (hsz : f.size ≤ n) (h : Rep w NoX p 2 f) (h' : Rep w NoX q k' f') (hw : Wf 2 f) (hw' : Wf k' f') :
    Calls Try.prog 71 #[.pointer (some p), .iface 72 (.pointer (some q))] w (EqPost (eqB 2 f k' f') w) := by
  obtain ⟨g, A, c, Ai, ci, qs, rfl, _, hql, hsub, hg, hr1, hr2⟩ := h.cells2
  have c0 : w.cell? ⟨g, 0, none⟩ = some (.int .i64 (hsh 2 f)) := cell_of hg 0
  have c4 : w.cell? ⟨g, 4, none⟩ = some (.slice A f.len c) := cell_of hg 4
  have c5 : w.cell? ⟨g, 5, none⟩ = some (.slice Ai f.len ci) := cell_of hg 5
  obtain ⟨hl, hl2⟩ : 0 < f.len ∧ f.len ≤ 1000 := by
    rcases hw.1 with ⟨h1, _⟩ | ⟨h1, _⟩ | ⟨_, h1, h2⟩
    · cases h1
    · cases h1
    · exact ⟨h1, h2⟩
  have HSUB := Lib.hid hsub
  have HR1 := Lib.hid hr1
  have HR2 := Lib.hid hr2
  have HW := Lib.hid hw.2
  have HI := Lib.hid IH
  clear hg h hw hsub IH hr1 hr2
  have qa := assert72
  rcases hw'.1 with ⟨rfl, rfl⟩ | ⟨rfl, hl'⟩ | ⟨rfl, hl', hl2'⟩
  · obtain ⟨g', rfl, _, hg'⟩ := h'.cells0
    have d1 : w.cell? ⟨g', 1, none⟩ = some (.int .i64 0) := cell_of hg' 1
    clear h' hg' hw'
    go_enter Try.func71, Try.ntmps71
    go_wp2_with fail
    go_ret
    exact ⟨by rw [eqB_false (by simp)]; rfl, Dr.refl _⟩
  · obtain ⟨g', s', q1', kk', sub', rfl, rfl, hsub', hg'⟩ := h'.cells1
    have d1 : w.cell? ⟨g', 1, none⟩ = some (.int .i64 1) := cell_of hg' 1
    clear h' hg' hw' hl' hsub'
    go_enter Try.func71, Try.ntmps71
    go_wp2_with fail
    go_ret
    exact ⟨by rw [eqB_false (by simp)]; rfl, Dr.refl _⟩
  · obtain ⟨g', A', c', Ai', ci', qs', rfl, _, hql', hsub', hg', hr1', hr2'⟩ := h'.cells2
    have d0 : w.cell? ⟨g', 0, none⟩ = some (.int .i64 (hsh 2 f')) := cell_of hg' 0
    have d1 : w.cell? ⟨g', 1, none⟩ = some (.int .i64 2) := cell_of hg' 1
    have d4 : w.cell? ⟨g', 4, none⟩ = some (.slice A' f'.len c') := cell_of hg' 4
    have d5 : w.cell? ⟨g', 5, none⟩ = some (.slice Ai' f'.len ci') := cell_of hg' 5
    have HR' := Lib.hid h'
    have HSUB' := Lib.hid hsub'
    have HR1' := Lib.hid hr1'
    have HR2' := Lib.hid hr2'
    have HW' := Lib.hid hw'.2
    clear h' hg' hsub' hw' hr1' hr2' hql hql'
    have HIS := Lib.hid (show ∀ w', Dr w w' → Calls Try.prog 92 #[.slice Ai f.len ci, .slice Ai' f'.len ci'] w' (BoolPost (decide (f.sts = f'.sts)) w') from fun w' hd => by
      have r1 := (HR2.out.stay hd.stay (.inr (.inr rfl))).reads
      have r2 := (HR2'.out.stay hd.stay (.inr (.inr rfl))).reads
      have e1 := Tops.sts_length f
      have e2 := Tops.sts_length f'
      rw [← e1] at r1
      rw [← e2] at r2
      have := intSlicesEqual_any Ai Ai' ci ci' f.sts f'.sts w' r1 r2 (by omega) (by omega) (by omega) (by omega)
      rwa [e1, e2] at this)
    by_cases hh : hsh 2 f = hsh 2 f'
    · have hh' : (hsh 2 f != hsh 2 f') = false := by rw [bne_eq_false_iff_eq]; exact hh
      generalize hsh 2 f = H1 at *
      clear hh
      by_cases hss : f.sts = f'.sts
      · have hll : f'.len = f.len := by rw [← Tops.sts_length, ← Tops.sts_length, hss]
        have HT := Lib.hid (show decide (f.sts = f'.sts) = true from decide_eq_true hss)
        have HSS := Lib.hid hss
        have HLL := Lib.hid hll
        rw [HT.out, hll] at HIS
        rw [hll] at d4 d5 hl' hl2' HR1' HR2'
        clear hss hll
        go_enter Try.func71, Try.ntmps71
        go_wp2_with fail
        go_quiet ((go_at_call 53; exact Calls.quiet_of_same ((Hash_any _ _ _ _ _ (HR'.out.stay (Dr.refl _ |>.drewN _).stay)).mono fun _ _ ⟨a, b⟩ => ⟨a, b.symm⟩)))
        go_wp2_with fail
        obtain ⟨wo, hwo⟩ : ∃ wo : World, wo = w.drewN nq := ⟨_, rfl⟩
        have HD := Lib.hid (show Dr w wo from ⟨nq, hwo⟩)
        have c4 : wo.cell? ⟨g, 4, none⟩ = some (.slice A f.len c) := by rw [hwo]; exact c4
        have c5 : wo.cell? ⟨g, 5, none⟩ = some (.slice Ai f.len ci) := by rw [hwo]; exact c5
        have d4 : wo.cell? ⟨g', 4, none⟩ = some (.slice A' f.len c') := by rw [hwo]; exact d4
        have d5 : wo.cell? ⟨g', 5, none⟩ = some (.slice Ai' f.len ci') := by rw [hwo]; exact d5
        rw [← hwo]
        clear hwo
        go_quiet ((first
          | (go_at_call 92; exact Calls.quiet_of_same ((HIS.out _ (HD.out.drewN _)).mono fun _ _ ⟨a, b⟩ => ⟨a, b.symm⟩))
          | (go_at_call 93; exact EqPost.quiet (pcSliceEqual_any n HI.out A A' c c' f f' qs qs' _ hsz HLL.out.symm hl hl2 HSS.out HW.out HW'.out (HR1.out.stay (HD.out.drewN _).stay (.inr (.inl rfl))) (HR1'.out.stay (HD.out.drewN _).stay (.inr (.inl rfl))) (HSUB.out.stay (HD.out.drewN _).stay) (HSUB'.out.stay (HD.out.drewN _).stay)))))
        go_wp2_with fail
        go_ret
        refine ⟨?_, HD.out.drewN _⟩
        have e : decide (f = f') = eqB 2 f 2 f' := by simp [eqB]
        rw [← e]; rfl
      · have HT := Lib.hid (show decide (f.sts = f'.sts) = false from decide_eq_false hss)
        have HN := Lib.hid (show eqB 2 f 2 f' = false from eqB_false (fun e => hss (by rw [e.2])))
        rw [HT.out] at HIS
        clear hss
        go_enter Try.func71, Try.ntmps71
        go_wp2_with fail
        go_quiet ((go_at_call 53; exact Calls.quiet_of_same ((Hash_any _ _ _ _ _ (HR'.out.stay (Dr.refl _ |>.drewN _).stay)).mono fun _ _ ⟨a, b⟩ => ⟨a, b.symm⟩)))
        go_wp2_with fail
        obtain ⟨wo, hwo⟩ : ∃ wo : World, wo = w.drewN nq := ⟨_, rfl⟩
        have HD := Lib.hid (show Dr w wo from ⟨nq, hwo⟩)
        have c5 : wo.cell? ⟨g, 5, none⟩ = some (.slice Ai f.len ci) := by rw [hwo]; exact c5
        have d5 : wo.cell? ⟨g', 5, none⟩ = some (.slice Ai' f'.len ci') := by rw [hwo]; exact d5
        rw [← hwo]
        clear hwo
        go_quiet ((go_at_call 92; exact Calls.quiet_of_same ((HIS.out _ (HD.out.drewN _)).mono fun _ _ ⟨a, b⟩ => ⟨a, b.symm⟩)))
        go_wp2_with fail
        go_ret
        exact ⟨by rw [HN.out]; rfl, HD.out.drewN _⟩
    · have hh' : (hsh 2 f != hsh 2 f') = true := by rw [bne_iff_ne]; exact hh
      have HN := Lib.hid (show eqB 2 f 2 f' = false from eqB_false (fun e => hh (by rw [e.2])))
      generalize hsh 2 f = H1 at *
      clear hh
      go_enter Try.func71, Try.ntmps71
      go_wp2_with fail
      go_quiet ((go_at_call 53; exact Calls.quiet_of_same ((Hash_any _ _ _ _ _ (HR'.out.stay (Dr.refl _ |>.drewN _).stay)).mono fun _ _ ⟨a, b⟩ => ⟨a, b.symm⟩)))
      go_wp2_with fail
      go_ret
      exact ⟨by rw [HN.out]; rfl, (Dr.refl _).drewN _⟩
theorem under99 : ∀ w x, (binOp .eql 99 (.iface 72 x) .nilIface).run Try.prog w = .ok (.bool false) w := fun w x => by
  simp [go_sem, Try.underlying99]
set_option maxRecDepth 20000 in
set_option maxHeartbeats 2000000 in
theorem equals_step (n : Nat) (IH : EqTo n) : EqTo (n + 1) := by
  intro f k f' k' p q w hsz h h' hw hw'
  have HI := Lib.hid IH
  have HH := Lib.hid h
  have HH' := Lib.hid h'
  have HW := Lib.hid hw
  have HW' := Lib.hid hw'
  have qa := assert72
  have qn := under99
  obtain ⟨g, _, _, _, _, rfl, _, hg⟩ := h.head
  obtain ⟨g', _, _, _, _, rfl, _, hg'⟩ := h'.head
  have c1 : w.cell? ⟨g, 1, none⟩ = some (.int .i64 k) := cell_of hg 1
  by_cases hgg : g = g'
  · subst hgg
    have HN := Lib.hid (show eqB k f k' f' = true from eqB_true (HH.out.unique HH'.out))
    have q1 := eqI_same w ⟨g, 0, none⟩
    clear h h' hg hg' c1 hw hw' IH
    go_enter Try.func52, Try.ntmps52
    go_wp2_with fail
    go_ret
    exact ⟨by rw [HN.out]; rfl, Dr.refl _⟩
  · have q1 := eqI_other w (a := ⟨g, 0, none⟩) (b := ⟨g', 0, none⟩) (by intro e; cases e; exact hgg rfl) hg hg'
    clear h h' hg hg' hgg IH
    rcases hw.1 with ⟨rfl, rfl⟩ | ⟨rfl, hl⟩ | ⟨rfl, hl, hl2⟩
    · clear hw hw'
      go_enter Try.func52, Try.ntmps52
      go_wp2_with (go_at_call 69; refine (isEmpty_any _ _ _ _ _ HH'.out HW'.out).mono ?_; rintro e w' ⟨rfl, rfl⟩)
      go_ret
      refine ⟨?_, Dr.refl _⟩
      have e : decide (k' = 0) = eqB 0 .nil k' f' := by
        unfold eqB
        rw [Bool.eq_iff_iff]
        simp only [decide_eq_true_eq]
        constructor
        · rintro rfl
          rcases HW'.out.1 with ⟨_, h⟩ | ⟨h, _⟩ | ⟨h, _⟩
          · exact ⟨rfl, h.symm⟩
          · cases h
          · cases h
        · exact fun h => h.1.symm
      rw [← e]; rfl
    · obtain ⟨s, kk, sub, rfl⟩ : ∃ s kk sub, f = .cons s kk sub .nil := by
        cases f with
        | nil => simp [Tops.len] at hl
        | cons s kk sub r => cases r with
          | nil => exact ⟨s, kk, sub, rfl⟩
          | cons => simp [Tops.len] at hl
      have HSZ := Lib.hid (show sub.size < n by simp only [Tops.size] at hsz; omega)
      clear hw hw' hl hsz
      go_enter Try.func52, Try.ntmps52
      go_wp2_with fail
      refine (singleEquals_any n HI.out s kk sub f' k' _ _ w HSZ.out HH.out HH'.out ⟨HW.out.2.2.1, HW.out.2.2.2.1⟩ HW'.out).mono ?_
      rintro e w' ⟨rfl, hd⟩
      have HD := Lib.hid hd
      clear hd
      go_wp2_with fail
      go_ret
      exact ⟨rfl, HD.out⟩
    · have HSZ := Lib.hid (show f.size ≤ n by omega)
      clear hw hw' hl hl2 hsz
      go_enter Try.func52, Try.ntmps52
      go_wp2_with fail
      refine (arrayEquals_any n HI.out f f' k' _ _ w HSZ.out HH.out HH'.out HW.out HW'.out).mono ?_
      rintro e w' ⟨rfl, hd⟩
      have HD := Lib.hid hd
      clear hd
      go_wp2_with fail
      go_ret
      exact ⟨rfl, HD.out⟩
theorem equals_all (n : Nat) : EqTo n := by
  induction n with
  | zero => intro f k f' k' p q w h; omega
  | succ n ih => exact equals_step n ih
/-- EQUALS -/
theorem equals_any (f : Tops) (k : Nat) (f' : Tops) (k' : Nat) (p q : Addr) (w : World) (h : Rep w NoX p k f) (h' : Rep w NoX q k' f') (hw : Wf k f) (hw' : Wf k' f') :
    Calls Try.prog 52 #[.pointer (some p), .iface 72 (.pointer (some q))] w (EqPost (eqB k f k' f') w) := equals_all _ f k f' k' p q w (Nat.lt_succ_self _) h h' hw hw'
end Go.Proofs.Ytcbabfndfikejaa
