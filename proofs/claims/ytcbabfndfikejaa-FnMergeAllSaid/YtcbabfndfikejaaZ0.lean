/- Q1, in one: Small lemmas on slices that read as lists, on blocks known whole, and on append; used by all walks of this seat. No condition. The walks of the hash of numbers: what the package's three functions and the reference compute. No condition but the bound on the length. The walks of the hash of a list of numbers, in the package and in the reference. Condition: the length is an int. The law on the hash of numbers: the package's hash is the reference's, whatever the numbers. Condition: the length is an int. Predicates on memory for tables of nodes: a slice of structs of two slices reads as a list of nodes. No condition. Laws on appends onto an empty slice of no room, and on what stays while the heap grows. No condition. Choices of stacks as trees, their hash, and how they lie in memory. No condition. The walks of what makes a choice: the empty one, one top, an array; and of what reads its hash. Conditions: what is below lies in memory. The walks over the given table: that it fits, that it is good, and its copies. No condition but that the table reads. The walk of spec.Good: if it says yes, the table is as the documentation of a table says. Condition: at most 2147483647 nodes. The walk of laws.nodes: the reference table has the nodes of the given one. Condition: at most 2147483647 nodes. The walks of spec.In and of impl.nodes: the package has a copy of the table. Condition: the table is good. A region that draws its order may be walked in one order: first what only reads, then the chain of what writes, if each reading yields the same in all worlds that meet S, and S holds behind each writing but the last. -/
import Derived.Below
import Derived.Laws.OwnMore
import Derived.Deep.AppendLies
import Derived.Deep.Draws
import Derived.Laws.Rows
import Derived.Maps.AppendAt
import Derived.RegionTactic
import Derived.OwnWalk
import Derived.Lib.Hide
import Derived.Test.YtcbabfndfikejaaChecked
import Derived.WalkKit
import Derived.Outline
import Derived.WalkLawsBesides
import Derived.WalkSpells
import Derived.Deep.Light
import Derived.ArgAppend
import Derived.Deep.Upon
import Derived.BigQuiet
import Derived.Deep.QuietTactic
import Derived.Deep.DeepFit
import Derived.BigGuardPart
import Derived.Deep.DeepMust
import Derived.Deep.RegionHeld3
import Derived.Deep.DrawnRows
import Derived.OrdersHeld
/- Small lemmas on slices that read as lists, on blocks known whole, and on append; used by all walks of this seat. No condition. -/
namespace Go.Proofs.Ytcbabfndfikejaa
open Go.RowKit
theorem block_of_add (a : Addr) (n : Nat) : (a.add n).block = a.block := by unfold Addr.add; split <;> rfl
theorem add_of_add (a : Addr) (i j : Nat) : (a.add i).add j = a.add (i + j) := by
  unfold Addr.add
  by_cases hi : i = 0 <;> by_cases hj : j = 0 <;> simp [hi, hj, Nat.add_assoc]
def Reads (w : World) (B size : Nat) (A : Option Addr) (n : Nat) (xs : List Value) : Prop :=
  xs.length = n * size ∧ (0 < n → ∃ ad, A = some ad ∧ ad.block < B ∧ ∀ j u, xs[j]? = some u → w.cell? (ad.add j) = some u)
section
variable {w w' : World} {B B' size n : Nat} {A : Option Addr} {xs : List Value}
theorem Reads.none_ : Reads w B size A 0 [] := ⟨by simp, fun h => absurd h (by omega)⟩
theorem Reads.at_ {k : Nat} (h : Reads w B 1 A n xs) (hk : k < n) : ∃ ad u, A = some ad ∧ ad.block < B ∧ xs[k]? = some u ∧ w.cell? (ad.add k) = some u := by
  obtain ⟨ad, e, hb, hc⟩ := h.2 (by omega)
  have hl : k < xs.length := by have := h.1; omega
  exact ⟨ad, xs[k], e, hb, List.getElem?_eq_getElem hl, hc k _ (List.getElem?_eq_getElem hl)⟩
theorem Reads.keep (h : Reads w B size A n xs) (hk : ∀ p : Addr, p.block < B → w'.cell? p = w.cell? p) : Reads w' B size A n xs :=
  ⟨h.1, fun hn => by
    obtain ⟨ad, e, hb, hc⟩ := h.2 hn
    exact ⟨ad, e, hb, fun j u hu => (hk _ (by rw [block_of_add]; exact hb)).trans (hc j u hu)⟩⟩
theorem Reads.more (h : Reads w B size A n xs) (hB : B ≤ B') : Reads w B' size A n xs :=
  ⟨h.1, fun hn => by
    obtain ⟨ad, e, hb, hc⟩ := h.2 hn
    exact ⟨ad, e, by omega, hc⟩⟩
theorem Reads.below (h : Reads w B size A n xs) (hb : Below B w w') : Reads w' B size A n xs := h.keep fun _ hp => hb.cell hp
theorem Reads.drew (h : Reads w B size A n xs) : Reads w.drew B size A n xs := h
theorem Reads.drewN (h : Reads w B size A n xs) (k : Nat) : Reads (w.drewN k) B size A n xs := h
theorem Reads.alloc (h : Reads w B size A n xs) (hB : B ≤ w.heap.size) (o : Obj) : Reads (w.alloc o) B size A n xs := h.keep fun p hp => World.cell?_alloc_lt w o p (by omega)
theorem Reads.setCell (h : Reads w B size A n xs) {p : Addr} (hB : B ≤ p.block) (u : Value) : Reads (w.setCell p u) B size A n xs :=
  h.keep fun q hq => World.cell?_setCell_other w p q u (fun e => by subst e; omega)
theorem Reads.grown (h : Reads w B size A n xs) {row : Option Nat} (hg : w.grownBy w' row) (hB : B ≤ w.heap.size) (hr : ∀ g, row = some g → B ≤ g) : Reads w' B size A n xs :=
  h.keep fun p hp => World.cell?_of_block (hg.block p.block (by omega) (fun e => by have := hr _ e.symm; omega))
theorem Reads.cut (h : Reads w B size A n xs) {k cap : Nat} (hk : k ≤ n) (hc : n ≤ cap) :
    Reads w B size (if cap = k then A else A.map (·.add (k * size))) (n - k) (xs.drop (k * size)) := by
  refine ⟨by rw [List.length_drop, h.1, Nat.sub_mul], fun hn => ?_⟩
  obtain ⟨ad, rfl, hb, hcell⟩ := h.2 (by omega)
  rw [if_neg (by omega)]
  refine ⟨ad.add (k * size), rfl, by rw [block_of_add]; exact hb, fun j u hu => ?_⟩
  rw [add_of_add]
  exact hcell _ u (by rw [← hu, List.getElem?_drop])
theorem Reads.of_own {base : Nat} {e : TypeId} {c : Nat} (h : w.ownsRow base e size (.slice A n c) n xs) : Reads w w.heap.size size A n xs := by
  refine ⟨h.1, fun hn => ?_⟩
  obtain ⟨g, cap, hv, _, hlt⟩ := h.form hn
  have hA : A = some ⟨g, 0, none⟩ := by injection hv
  subst hA
  exact ⟨_, rfl, hlt, h.cells (g := g) rfl⟩
end
def Blk (w : World) (g : Nat) (t : TypeId) (cs : Array Value) : Prop := w.heap[g]? = some (.cells cs t (0, 0))
section
variable {w w' : World} {g : Nat} {t : TypeId} {cs : Array Value}
theorem Blk.lt (h : Blk w g t cs) : g < w.heap.size := by
  rcases Nat.lt_or_ge g w.heap.size with hlt | hge
  · exact hlt
  · unfold Blk at h; rw [Array.getElem?_eq_none hge] at h; cases h
theorem Blk.cell (h : Blk w g t cs) (i : Nat) : w.cell? ⟨g, i, none⟩ = cs[i]? := cell_of_row w g i cs t (0, 0) h
theorem Blk.frozen (h : Blk w g t cs) (i : Nat) : w.frozen? ⟨g, i, none⟩ = false := by
  unfold Blk at h
  simp [World.frozen?, h]
theorem Blk.new (w : World) (t : TypeId) (cs : Array Value) : Blk (w.alloc (.cells cs t)) w.heap.size t cs := heap_alloc_new w _
theorem Blk.drew (h : Blk w g t cs) : Blk w.drew g t cs := h
theorem Blk.drewN (h : Blk w g t cs) (n : Nat) : Blk (w.drewN n) g t cs := h
theorem Blk.alloc (h : Blk w g t cs) (o : Obj) : Blk (w.alloc o) g t cs := (Below.heap_alloc w o g h.lt).trans h
theorem Blk.set_ (h : Blk w g t cs) (i : Nat) (u : Value) : Blk (w.setCell ⟨g, i, none⟩ u) g t (cs.setIfInBounds i u) := by
  unfold Blk at h ⊢
  simp [World.setCell, Array.getElem?_modify, h]
theorem Blk.far (h : Blk w g t cs) {p : Addr} (hp : g ≠ p.block) (u : Value) : Blk (w.setCell p u) g t cs := (Below.heap_setCell w p u g hp).trans h
theorem Blk.below {B : Nat} (h : Blk w g t cs) (hb : Below B w w') (hg : g < B) : Blk w' g t cs := (hb.block g hg).trans h
theorem Blk.grown {row : Option Nat} (h : Blk w g t cs) (hb : w.grownBy w' row) (hg : some g ≠ row) : Blk w' g t cs := (hb.block g h.lt hg).trans h
theorem Blk.ne_ {g' : Nat} {t' : TypeId} {cs' : Array Value} (h : Blk w g t cs) (h' : Blk w g' t' cs') (hne : t ≠ t') : g ≠ g' := by
  rintro rfl
  unfold Blk at h h'
  rw [h] at h'
  injection h' with h'
  injection h' with _ ht
  exact hne ht
theorem own_blk_ne {base : Nat} {e : TypeId} {size n : Nat} {v : Value} {xs : List Value} (h : w.ownsRow base e size v n xs) (hg : Blk w g t cs) (hne : e ≠ t) : v.ownBlock ≠ some g := by
  rcases h.2 with ⟨rfl, _⟩ | ⟨g', cap, cur, rfl, _, hh, _⟩
  · simp [Value.ownBlock]
  · intro he
    have : g' = g := by simpa [Value.ownBlock] using he
    subst this
    exact Blk.ne_ (t := e) hh hg hne rfl
end
section
variable {P : Program} (w : World)
theorem run_append_of_nil (base : Nat) (t ty e : TypeId) (i : TypeInfo) (size : Nat) (ht : P.underlying t = some (.slice e)) (hi : P.info? e = some i)
    (v : Value) (n : Nat) (xs : List Value) (hown : w.ownsRow base e size v n xs) (c : Nat) : (Builtin.append_ #[t, t] ty #[v, .slice none 0 c]).run P w = .ok v w := by
  rcases hown.2 with ⟨rfl, rfl⟩ | ⟨g, cap, cur, rfl, _, _, hnc, _⟩
  · simp [Builtin.append_, run_underlying ht, sizeOf, typeInfo, hi, Builtin.lenOf, Builtin.firstCells]
  · simp [Builtin.append_, run_underlying ht, sizeOf, typeInfo, hi, Builtin.lenOf, Builtin.firstCells, hnc, storeCells]
theorem run_append_any (base : Nat) (t ty e : TypeId) (i : TypeInfo) (z : Value) (size bytes : Nat) (ht : P.underlying t = some (.slice e)) (hi : P.info? e = some i) (hz : i.zero = some z)
    (hsize : i.size = size) (hby : i.bytes = bytes) (hzs : z.cells.size = size) (hsz : 0 < size)
    (v : Value) (n : Nat) (xs : List Value) (hown : w.ownsRow base e size v n xs)
    (B : Nat) (A : Option Addr) (m c : Nat) (news : List Value) (hr : Reads w B size A m news) (h1 : ∀ u ∈ news, u.oneCell' = true)
    (h63 : n + m ≤ maxLen) (hbytes : (n + m) * bytes ≤ 140737488355328) (hbase : base ≤ w.heap.size) :
    ∃ v' w', (Builtin.append_ #[t, t] ty #[v, .slice A m c]).run P w = .ok v' w' ∧ w'.ownsRow base e size v' (n + m) (xs ++ news) ∧ w.grownBy w' v.ownBlock ∧
      (v'.ownBlock = v.ownBlock ∨ v'.ownBlock = some w.heap.size) := by
  rcases A with _ | ad
  · have hm : m = 0 := by
      rcases Nat.eq_zero_or_pos m with h0 | h0
      · exact h0
      · obtain ⟨ad, h, _⟩ := hr.2 h0
        cases h
    subst hm
    have hn : news = [] := List.eq_nil_of_length_eq_zero (by simpa using hr.1)
    subst hn
    exact ⟨v, w, run_append_of_nil w base t ty e i size ht hi v n xs hown c, by simpa using hown, World.grownBy.refl w _, .inl rfl⟩
  · have hcells : ∀ j u, news[j]? = some u → w.cell? (ad.add j) = some u := by
      intro j u hu
      rcases Nat.eq_zero_or_pos m with h0 | h0
      · subst h0
        have hn : news = [] := List.eq_nil_of_length_eq_zero (by simpa using hr.1)
        subst hn
        simp at hu
      · obtain ⟨ad', h, _, hc⟩ := hr.2 h0
        injection h with h
        subst h
        exact hc j u hu
    obtain ⟨v', w', hrun, h2, h3, _, h5⟩ := run_append_own_at (P := P) w base t ty e i z size bytes ht hi hz hsize hby hzs hsz v n xs hown ad m c news hr.1 hcells h1 h63 hbytes hbase
    exact ⟨v', w', hrun, h2, h3, h5⟩
theorem wp_append_any {o : Oper} {a : Act} {K : Act → World → Prop} {Q : Exit → Act → World → Prop} (s x : Operand) (t : TypeId)
    (ho : o.op = .call { callee := .builtin .append, args := #[s, x], argTypes := #[t, t] })
    (base : Nat) (e : TypeId) (i : TypeInfo) (z : Value) (size bytes : Nat) (ht : P.underlying t = some (.slice e)) (hi : P.info? e = some i) (hz : i.zero = some z)
    (hsize : i.size = size) (hby : i.bytes = bytes) (hzs : z.cells.size = size) (hsz : 0 < size)
    (v : Value) (n : Nat) (xs : List Value) (hs : a.eval s = v) (hown : w.ownsRow base e size v n xs)
    (B : Nat) (A : Option Addr) (m c : Nat) (news : List Value) (hx : a.eval x = .slice A m c) (hr : Reads w B size A m news) (h1 : ∀ u ∈ news, u.oneCell' = true)
    (h63 : n + m ≤ maxLen) (hbytes : (n + m) * bytes ≤ 140737488355328) (hbase : base ≤ w.heap.size)
    (h : ∀ v' w', w'.ownsRow base e size v' (n + m) (xs ++ news) → w.grownBy w' v.ownBlock → (v'.ownBlock = v.ownBlock ∨ v'.ownBlock = some w.heap.size) → K (a.put o.dst v') w') : o.wp P a w K Q := by
  obtain ⟨v', w', hrun, h2, h3, h4⟩ := run_append_any (P := P) w base t o.type e i z size bytes ht hi hz hsize hby hzs hsz v n xs hown B A m c news hr h1 h63 hbytes hbase
  unfold Oper.wp execOp
  simp only [ho, resolve, invoke, builtin, Sem.run_bind, Sem.run_pure, Result.andThen_ok, List.map_toArray, List.map_cons, List.map_nil, hs, hx, hrun]
  exact h v' w' h2 h3 h4
theorem wpList_append_any {ops : Array Oper} {rest : List Oper} {o : Oper} {a : Act} {Q : Exit → Act → World → Prop} (hgd : o.guard = none) (s x : Operand) (t : TypeId)
    (ho : o.op = .call { callee := .builtin .append, args := #[s, x], argTypes := #[t, t] })
    (base : Nat) (e : TypeId) (i : TypeInfo) (z : Value) (size bytes : Nat) (ht : P.underlying t = some (.slice e)) (hi : P.info? e = some i) (hz : i.zero = some z)
    (hsize : i.size = size) (hby : i.bytes = bytes) (hzs : z.cells.size = size) (hsz : 0 < size)
    (v : Value) (n : Nat) (xs : List Value) (hs : a.eval s = v) (hown : w.ownsRow base e size v n xs)
    (B : Nat) (A : Option Addr) (m c : Nat) (news : List Value) (hx : a.eval x = .slice A m c) (hr : Reads w B size A m news) (h1 : ∀ u ∈ news, u.oneCell' = true)
    (h63 : n + m ≤ maxLen) (hbytes : (n + m) * bytes ≤ 140737488355328) (hbase : base ≤ w.heap.size)
    (h : ∀ v' w', w'.ownsRow base e size v' (n + m) (xs ++ news) → w.grownBy w' v.ownBlock → (v'.ownBlock = v.ownBlock ∨ v'.ownBlock = some w.heap.size) → wpList P ops Q rest (a.put o.dst v') w') : wpList P ops Q (o :: rest) a w :=
  wpList_plain hgd fun _ hK => wp_append_any w s x t ho base e i z size bytes ht hi hz hsize hby hzs hsz v n xs hs hown B A m c news hx hr h1 h63 hbytes hbase fun v' w' h2 h3 h4 => hK _ _ (h v' w' h2 h3 h4)
theorem step_append_any {ops : Array Oper} {o : Oper} {a : Act} {K : Act → World → Prop} {Q : Exit → Act → World → Prop} {E : Prop} (hgd : o.guard = none) (s x : Operand) (t : TypeId)
    (ho : o.op = .call { callee := .builtin .append, args := #[s, x], argTypes := #[t, t] })
    (base : Nat) (e : TypeId) (i : TypeInfo) (z : Value) (size bytes : Nat) (ht : P.underlying t = some (.slice e)) (hi : P.info? e = some i) (hz : i.zero = some z)
    (hsize : i.size = size) (hby : i.bytes = bytes) (hzs : z.cells.size = size) (hsz : 0 < size)
    (v : Value) (n : Nat) (xs : List Value) (hs : a.eval s = v) (hown : w.ownsRow base e size v n xs)
    (B : Nat) (A : Option Addr) (m c : Nat) (news : List Value) (hx : a.eval x = .slice A m c) (hr : Reads w B size A m news) (h1 : ∀ u ∈ news, u.oneCell' = true)
    (h63 : n + m ≤ maxLen) (hbytes : (n + m) * bytes ≤ 140737488355328) (hbase : base ≤ w.heap.size)
    (h : ∀ v' w', w'.ownsRow base e size v' (n + m) (xs ++ news) → w.grownBy w' v.ownBlock → (v'.ownBlock = v.ownBlock ∨ v'.ownBlock = some w.heap.size) → K (a.put o.dst v') w') :
    if Region.wanted o (yielded ops a.tmps) = true then Oper.wp P o a w K Q else E := by
  have hw : Region.wanted o (yielded ops a.tmps) = true := by simp [Region.wanted, hgd]
  rw [if_pos hw]
  exact wp_append_any w s x t ho base e i z size bytes ht hi hz hsize hby hzs hsz v n xs hs hown B A m c news hx hr h1 h63 hbytes hbase h
end
end Go.Proofs.Ytcbabfndfikejaa
/- The walks of the hash of numbers: what the package's three functions and the reference compute. No condition but the bound on the length. -/
namespace Go.Proofs.Ytcbabfndfikejaa
open Go.RowKit
/-- a number that is hashed, turned -/
def murK (v : Int) : Int :=
  bits BinOp.or IntKind.u32 (v % 4294967296 * 3432918353 % 4294967296 * 32768 % 4294967296) (v % 4294967296 * 3432918353 % 4294967296 / 131072) * 461845907 % 4294967296
/-- the hash behind a number -/
def murH (h k : Int) : Int :=
  (bits BinOp.or IntKind.u32 (bits BinOp.xor IntKind.u32 h k * 8192 % 4294967296) (bits BinOp.xor IntKind.u32 h k / 524288) * 5 + 3864292196) % 4294967296
def murU (h v : Int) : Int := murH (h % 4294967296) (murK v)
def murE3 (a : Int) : Int := bits BinOp.xor IntKind.u32 a (a / 65536)
def murE2 (a : Int) : Int := murE3 (bits BinOp.xor IntKind.u32 a (a / 8192) * 3266489909 % 4294967296)
def murE1 (a : Int) : Int := murE2 (bits BinOp.xor IntKind.u32 a (a / 65536) * 2246822507 % 4294967296)
/-- the end of the hash -/
def murF (h n : Int) : Int := wrap64 (murE1 (bits BinOp.xor IntKind.u32 (h % 4294967296) (n % 4294967296 * 4 % 4294967296)))
theorem murmurInit_any (h : Int) (w : World) : Calls Try.prog 47 #[.int .i64 h] w fun e w' => e = .returned (.int .i64 h) ∧ w = w' := by
  go_enter Try.func47, Try.ntmps47
  go_wp2
  go_ret
  exact ⟨rfl, rfl⟩
theorem murmurUpdate_any (h v : Int) (w : World) : Calls Try.prog 48 #[.int .i64 h, .int .i64 v] w fun e w' => e = .returned (.int .i64 (murU h v)) ∧ w = w' := by
  go_enter Try.func48, Try.ntmps48
  go_wp2
  go_ret
  exact ⟨rfl, rfl⟩
theorem murmurFinish_any (h n : Int) (w : World) : Calls Try.prog 49 #[.int .i64 h, .int .i64 n] w fun e w' => e = .returned (.int .i64 (murF h n)) ∧ w = w' := by
  go_enter Try.func49, Try.ntmps49
  go_wp2
  go_ret
  exact ⟨rfl, rfl⟩
end Go.Proofs.Ytcbabfndfikejaa
/- The walks of the hash of a list of numbers, in the package and in the reference. Condition: the length is an int. -/
namespace Go.Proofs.Ytcbabfndfikejaa
open Go.RowKit
def ints (vs : List Int) : List Value := vs.map (Value.int .i64)
def murL : Int → List Int → Int
  | h, [] => h
  | h, v :: r => murL (murU h v) r
theorem murL_snoc (h : Int) (l : List Int) (v : Int) : murL h (l ++ [v]) = murU (murL h l) v := by
  induction l generalizing h with
  | nil => rfl
  | cons a l ih => exact ih _
theorem take_snoc' {α : Type} (l : List α) (k : Nat) (u : α) (h : l[k]? = some u) : l.take (k + 1) = l.take k ++ [u] := by
  rw [List.take_add_one, h]; rfl
theorem ints_at {vs : List Int} {k : Nat} {u : Value} (h : (ints vs)[k]? = some u) : ∃ v, vs[k]? = some v ∧ u = .int .i64 v := by
  simp only [ints, List.getElem?_map, Option.map_eq_some_iff] at h
  obtain ⟨v, h1, h2⟩ := h
  exact ⟨v, h1, h2.symm⟩
end Go.Proofs.Ytcbabfndfikejaa
/- The law on the hash of numbers: the package's hash is the reference's, whatever the numbers. Condition: the length is an int. -/
namespace Go.Proofs.Ytcbabfndfikejaa
open Go.RowKit
theorem int_info : (Try.prog.info? 3).map (fun i => (i.zero, i.size, i.bytes)) = some (some (.int .i64 0), 1, 8) := by kernel_rfl
theorem ints_one (vs : List Int) : ∀ u ∈ ints vs, u.oneCell' = true := by
  intro u hu
  simp only [ints, List.mem_map] at hu
  obtain ⟨v, _, rfl⟩ := hu
  rfl
theorem own_slice {w : World} {base : Nat} {e : TypeId} {size n : Nat} {v : Value} {xs : List Value} (h : w.ownsRow base e size v n xs) : ∃ A c, v = .slice A n c ∧ Reads w w.heap.size size A n xs := by
  have h' := h
  rcases h.2 with ⟨rfl, rfl⟩ | ⟨g, cap, cur, rfl, _⟩
  · exact ⟨none, 0, rfl, Reads.of_own h'⟩
  · exact ⟨_, _, rfl, Reads.of_own h'⟩
end Go.Proofs.Ytcbabfndfikejaa
/- Predicates on memory for tables of nodes: a slice of structs of two slices reads as a list of nodes. No condition. -/
namespace Go.Proofs.Ytcbabfndfikejaa
open Go.RowKit
theorem addr_of_cell {w : World} {ad : Addr} {j : Nat} {u : Value} (h : w.cell? (ad.add j) = some u) : ad.add j = ⟨ad.block, ad.off + j, none⟩ := by
  unfold World.cell? at h
  rw [block_of_add] at h
  split at h
  · split at h
    · cases h
    · rename_i hs
      unfold Addr.add at hs ⊢
      by_cases h0 : j = 0
      · subst h0
        cases ad; simp_all
      · simp_all
  · cases h
section
variable {w w' : World} {B B' size n : Nat} {A : Option Addr} {xs : List Value}
theorem Reads.lit (h : Reads w B size A n xs) (hn : 0 < n) (hs : 0 < size) : ∃ b off, A = some ⟨b, off, none⟩ ∧ b < B ∧ ∀ j u, xs[j]? = some u → w.cell? ⟨b, off + j, none⟩ = some u := by
  obtain ⟨ad, rfl, hb, hc⟩ := h.2 hn
  have hl : 0 < xs.length := by rw [h.1]; exact Nat.mul_pos hn hs
  have h0 := hc 0 _ (List.getElem?_eq_getElem hl)
  have e0 := addr_of_cell h0
  have e0' : ad = ⟨ad.block, ad.off, none⟩ := by
    have : ad.add 0 = ad := by unfold Addr.add; rw [if_pos rfl]
    rw [this] at e0; simpa using e0
  refine ⟨ad.block, ad.off, by rw [← e0'], hb, fun j u hu => ?_⟩
  have h1 := hc j u hu
  rwa [addr_of_cell h1] at h1
theorem Reads.at1 {k : Nat} (h : Reads w B 1 A n xs) (hk : k < n) : ∃ b off u, A = some ⟨b, off, none⟩ ∧ b < B ∧ xs[k]? = some u ∧ w.cell? ⟨b, off + k, none⟩ = some u := by
  obtain ⟨b, off, e, hb, hc⟩ := h.lit (by omega) (by omega)
  have hl : k < xs.length := by have := h.1; omega
  exact ⟨b, off, xs[k], e, hb, List.getElem?_eq_getElem hl, hc k _ (List.getElem?_eq_getElem hl)⟩
theorem Reads.at2 {k : Nat} (h : Reads w B 2 A n xs) (hk : k < n) : ∃ b off u v, A = some ⟨b, off, none⟩ ∧ b < B ∧ xs[k * 2]? = some u ∧ xs[k * 2 + 1]? = some v ∧
    w.cell? ⟨b, off + k * 2, none⟩ = some u ∧ w.cell? ⟨b, off + k * 2 + 1, none⟩ = some v := by
  obtain ⟨b, off, e, hb, hc⟩ := h.lit (by omega) (by omega)
  have hl : k * 2 + 1 < xs.length := by have := h.1; omega
  exact ⟨b, off, xs[k * 2], xs[k * 2 + 1], e, hb, List.getElem?_eq_getElem (by omega), List.getElem?_eq_getElem hl, hc _ _ (List.getElem?_eq_getElem (by omega)), hc _ _ (List.getElem?_eq_getElem hl)⟩
end
/-- A node of a table: what is below each top, and the tops. -/
structure Nd where
  ps : List Int
  ss : List Int
def NdVal (w : World) (B : Nat) (u v : Value) (nd : Nd) : Prop :=
  ∃ A c A' c', u = .slice A nd.ps.length c ∧ v = .slice A' nd.ss.length c' ∧ Reads w B 1 A nd.ps.length (ints nd.ps) ∧ Reads w B 1 A' nd.ss.length (ints nd.ss)
def Tbl (w : World) (B : Nat) (A : Option Addr) (ns : List Nd) : Prop :=
  ∃ xs, Reads w B 2 A ns.length xs ∧ ∀ i nd, ns[i]? = some nd → ∃ u v, xs[i * 2]? = some u ∧ xs[i * 2 + 1]? = some v ∧ NdVal w B u v nd
theorem NdVal.keep {w w' : World} {B : Nat} {u v : Value} {nd : Nd} (h : NdVal w B u v nd) (hk : ∀ p : Addr, p.block < B → w'.cell? p = w.cell? p) : NdVal w' B u v nd := by
  obtain ⟨A, c, A', c', h1, h2, h3, h4⟩ := h
  exact ⟨A, c, A', c', h1, h2, h3.keep hk, h4.keep hk⟩
theorem NdVal.more {w : World} {B B' : Nat} {u v : Value} {nd : Nd} (h : NdVal w B u v nd) (hB : B ≤ B') : NdVal w B' u v nd := by
  obtain ⟨A, c, A', c', h1, h2, h3, h4⟩ := h
  exact ⟨A, c, A', c', h1, h2, h3.more hB, h4.more hB⟩
theorem Tbl.keep {w w' : World} {B : Nat} {A : Option Addr} {ns : List Nd} (h : Tbl w B A ns) (hk : ∀ p : Addr, p.block < B → w'.cell? p = w.cell? p) : Tbl w' B A ns := by
  obtain ⟨xs, h1, h2⟩ := h
  refine ⟨xs, h1.keep hk, fun i nd hi => ?_⟩
  obtain ⟨u, v, hu, hv, h3⟩ := h2 i nd hi
  exact ⟨u, v, hu, hv, h3.keep hk⟩
theorem Tbl.below {w w' : World} {B : Nat} {A : Option Addr} {ns : List Nd} (h : Tbl w B A ns) (hb : Below B w w') : Tbl w' B A ns := h.keep fun _ hp => hb.cell hp
theorem Tbl.more {w : World} {B B' : Nat} {A : Option Addr} {ns : List Nd} (h : Tbl w B A ns) (hB : B ≤ B') : Tbl w B' A ns := by
  obtain ⟨xs, h1, h2⟩ := h
  refine ⟨xs, h1.more hB, fun i nd hi => ?_⟩
  obtain ⟨u, v, hu, hv, h3⟩ := h2 i nd hi
  exact ⟨u, v, hu, hv, h3.more hB⟩
/-- Node k of a table that reads. -/
theorem Tbl.at_ {w : World} {B : Nat} {A : Option Addr} {ns : List Nd} (h : Tbl w B A ns) {k : Nat} {nd : Nd} (hk : ns[k]? = some nd) : ∃ b off Ap cp As cs, A = some ⟨b, off, none⟩ ∧ b < B ∧
    w.cell? ⟨b, off + k * 2, none⟩ = some (.slice Ap nd.ps.length cp) ∧ w.cell? ⟨b, off + k * 2 + 1, none⟩ = some (.slice As nd.ss.length cs) ∧
    Reads w B 1 Ap nd.ps.length (ints nd.ps) ∧ Reads w B 1 As nd.ss.length (ints nd.ss) := by
  obtain ⟨xs, h1, h2⟩ := h
  have hlt : k < ns.length := (List.getElem?_eq_some_iff.1 hk).1
  obtain ⟨b, off, u, v, e, hb, hu, hv, cu, cv⟩ := h1.at2 hlt
  obtain ⟨u', v', hu', hv', A1, c1, A2, c2, rfl, rfl, r1, r2⟩ := h2 k nd hk
  rw [hu] at hu'; rw [hv] at hv'
  cases hu'; cases hv'
  exact ⟨b, off, A1, c1, A2, c2, e, hb, cu, cv, r1, r2⟩
theorem reads_new {w : World} {cs : Array Value} {e : TypeId} {size n g : Nat} (hg : w.heap.size = g) (hs : cs.size = n * size) : Reads (w.alloc (.cells cs e)) (g + 1) size (some ⟨g, 0, none⟩) n cs.toList := by
  subst hg
  exact ⟨by simpa using hs, fun _ => ⟨_, rfl, Nat.lt_succ_self _, fun j u hu => by
    have hadd : (⟨w.heap.size, 0, none⟩ : Addr).add j = ⟨w.heap.size, j, none⟩ := by unfold Addr.add; split <;> simp_all
    rw [hadd, cell_of_row _ _ _ _ _ _ (heap_alloc_new w (.cells cs e))]
    simpa using hu⟩⟩
/-- append onto a row of the call's own; what was there below base stays. -/
theorem wpList_append_bel {P : Program} {w : World} {ops : Array Oper} {rest : List Oper} {o : Oper} {a : Act} {Q : Exit → Act → World → Prop} (hgd : o.guard = none) (s x : Operand) (t : TypeId)
    (ho : o.op = .call { callee := .builtin .append, args := #[s, x], argTypes := #[t, t] })
    (W : World) (base : Nat) (e : TypeId) (i : TypeInfo) (z : Value) (size bytes : Nat) (ht : P.underlying t = some (.slice e)) (hi : P.info? e = some i) (hz : i.zero = some z)
    (hsize : i.size = size) (hby : i.bytes = bytes) (hzs : z.cells.size = size) (hsz : 0 < size)
    (v : Value) (n : Nat) (xs : List Value) (hs : a.eval s = v) (hown : w.ownsRow base e size v n xs)
    (B : Nat) (A : Option Addr) (m c : Nat) (news : List Value) (hx : a.eval x = .slice A m c) (hr : Reads w B size A m news) (h1 : ∀ u ∈ news, u.oneCell' = true)
    (h63 : n + m ≤ 4294967296) (hbytes : bytes ≤ 64) (hbel : Below base W w) (hbase : base ≤ w.heap.size)
    (h : ∀ v' w', w'.ownsRow base e size v' (n + m) (xs ++ news) → Below base W w' → w.grownBy w' v.ownBlock → (v'.ownBlock = v.ownBlock ∨ v'.ownBlock = some w.heap.size) → wpList P ops Q rest (a.put o.dst v') w') : wpList P ops Q (o :: rest) a w :=
  wpList_append_any w hgd s x t ho base e i z size bytes ht hi hz hsize hby hzs hsz v n xs hs hown B A m c news hx hr h1 (by simp only [maxLen]; omega)
    (Nat.le_trans (Nat.mul_le_mul h63 hbytes) (by omega)) hbase fun v' w' h2 h3 h4 => h v' w' h2 (hbel.grown h3 hbase fun g hg => (hown.lt g hg).1) h3 h4
end Go.Proofs.Ytcbabfndfikejaa
/- Laws on appends onto an empty slice of no room, and on what stays while the heap grows. No condition. -/
namespace Go.Proofs.Ytcbabfndfikejaa
open Go.RowKit
theorem ownsRow_ext {w w' : World} {base : Nat} {e : TypeId} {size : Nat} {v : Value} {n : Nat} {xs : List Value} (h : w.ownsRow base e size v n xs) (hb : Below w.heap.size w w') : w'.ownsRow base e size v n xs := by
  refine ⟨h.1, ?_⟩
  rcases h.2 with h0 | ⟨g, cap, cur, hv, hg, hh, r⟩
  · exact .inl h0
  · exact .inr ⟨g, cap, cur, hv, hg, (hb.block g (Array.getElem?_eq_some_iff.1 hh).1).trans hh, r⟩
theorem below_trans {a b c : World} (h : Below a.heap.size a b) (k : Below b.heap.size b c) : Below a.heap.size a c := h.trans (k.mono h.size)
theorem below_trans' {B : Nat} {a b c : World} (h : Below B a b) (hB : B ≤ b.heap.size) (k : Below b.heap.size b c) : Below B a c := h.trans (k.mono hB)
theorem Reads.ext {w w' : World} {size n : Nat} {A : Option Addr} {xs : List Value} (h : Reads w w.heap.size size A n xs) (hb : Below w.heap.size w w') : Reads w' w'.heap.size size A n xs := (h.below hb).more hb.size
section
variable {P : Program} {w : World}
/-- append onto an empty slice of no room: nothing that was there turns. -/
theorem run_append_copy (base : Nat) (t ty e : TypeId) (i : TypeInfo) (z : Value) (size bytes : Nat) (ht : P.underlying t = some (.slice e)) (hi : P.info? e = some i) (hz : i.zero = some z)
    (hsize : i.size = size) (hby : i.bytes = bytes) (hzs : z.cells.size = size) (hsz : 0 < size)
    (g : Nat) (hg : w.heap[g]? = some (.cells #[] e (0, 0))) (hbg : base ≤ g)
    (B : Nat) (A : Option Addr) (m c : Nat) (news : List Value) (hr : Reads w B size A m news) (h63 : m ≤ 4294967296) (hbytes : bytes ≤ 64) :
    ∃ v' w', (Builtin.append_ #[t, t] ty #[.slice (some ⟨g, 0, none⟩) 0 0, .slice A m c]).run P w = .ok v' w' ∧ w'.ownsRow base e size v' m news ∧ Below w.heap.size w w' := by
  have hlt : g < w.heap.size := (Array.getElem?_eq_some_iff.1 hg).1
  rcases Nat.eq_zero_or_pos m with h0 | h0
  · subst h0
    have hn : news = [] := List.eq_nil_of_length_eq_zero (by simpa using hr.1)
    subst hn
    refine ⟨.slice (some ⟨g, 0, none⟩) 0 0, w, ?_, ⟨by simp, .inr ⟨g, 0, #[], rfl, hbg, hg, Nat.le_refl _, by simp [maxLen], by simp, by simp⟩⟩, Below.refl _ _⟩
    cases A with
    | none => simp [Builtin.append_, run_underlying ht, sizeOf, typeInfo, hi, Builtin.lenOf, Builtin.firstCells, storeCells]
    | some a =>
      have hf := run_firstCells_some (P := P) w i.size 0 a 0 c [] (by simp) (by simp)
      simp [Builtin.append_, run_underlying ht, sizeOf, typeInfo, hi, Builtin.lenOf, hf, storeCells]
  · obtain ⟨ad, rfl, hb, hc⟩ := hr.2 h0
    obtain ⟨v', w', hrun, hown, hgrow⟩ := run_append_arg_grows (P := P) w t ty e i z size bytes ht hi hz hsize hby hzs hsz ⟨g, 0, none⟩ 0 0 [] (by simp) (by simp) ad m c news hr.1 hc (by omega) (by simp only [maxLen]; omega)
      (Nat.le_trans (Nat.mul_le_mul (show 0 + m ≤ 4294967296 by omega) hbytes) (by omega))
    rw [Nat.zero_add, List.nil_append] at hown
    refine ⟨v', w', hrun, ⟨hown.1, ?_⟩, ⟨hgrow.os, hgrow.tape, hgrow.output, hgrow.size, fun k hk => hgrow.block k hk (by simp)⟩⟩
    rcases hown.2 with h1 | ⟨g', cap, cur, hv, hg', r⟩
    · exact .inl h1
    · exact .inr ⟨g', cap, cur, hv, by omega, r⟩
theorem wp_append_copy {o : Oper} {a : Act} {K : Act → World → Prop} {Q : Exit → Act → World → Prop} (s x : Operand) (t : TypeId)
    (ho : o.op = .call { callee := .builtin .append, args := #[s, x], argTypes := #[t, t] })
    (base : Nat) (e : TypeId) (i : TypeInfo) (z : Value) (size bytes : Nat) (ht : P.underlying t = some (.slice e)) (hi : P.info? e = some i) (hz : i.zero = some z)
    (hsize : i.size = size) (hby : i.bytes = bytes) (hzs : z.cells.size = size) (hsz : 0 < size)
    (g : Nat) (hs : a.eval s = .slice (some ⟨g, 0, none⟩) 0 0) (hg : w.heap[g]? = some (.cells #[] e (0, 0))) (hbg : base ≤ g)
    (B : Nat) (A : Option Addr) (m c : Nat) (news : List Value) (hx : a.eval x = .slice A m c) (hr : Reads w B size A m news) (h63 : m ≤ 4294967296) (hbytes : bytes ≤ 64)
    (h : ∀ v' w', w'.ownsRow base e size v' m news → Below w.heap.size w w' → K (a.put o.dst v') w') : o.wp P a w K Q := by
  obtain ⟨v', w', hrun, h2, h3⟩ := run_append_copy (P := P) base t o.type e i z size bytes ht hi hz hsize hby hzs hsz g hg hbg B A m c news hr h63 hbytes
  unfold Oper.wp execOp
  simp only [ho, resolve, invoke, builtin, Sem.run_bind, Sem.run_pure, Result.andThen_ok, List.map_toArray, List.map_cons, List.map_nil, hs, hx, hrun]
  exact h v' w' h2 h3
theorem step_append_copy {ops : Array Oper} {o : Oper} {a : Act} {K : Act → World → Prop} {Q : Exit → Act → World → Prop} {E : Prop} (hgd : o.guard = none) (s x : Operand) (t : TypeId)
    (ho : o.op = .call { callee := .builtin .append, args := #[s, x], argTypes := #[t, t] })
    (base : Nat) (e : TypeId) (i : TypeInfo) (z : Value) (size bytes : Nat) (ht : P.underlying t = some (.slice e)) (hi : P.info? e = some i) (hz : i.zero = some z)
    (hsize : i.size = size) (hby : i.bytes = bytes) (hzs : z.cells.size = size) (hsz : 0 < size)
    (g : Nat) (hs : a.eval s = .slice (some ⟨g, 0, none⟩) 0 0) (hg : w.heap[g]? = some (.cells #[] e (0, 0))) (hbg : base ≤ g)
    (B : Nat) (A : Option Addr) (m c : Nat) (news : List Value) (hx : a.eval x = .slice A m c) (hr : Reads w B size A m news) (h63 : m ≤ 4294967296) (hbytes : bytes ≤ 64)
    (h : ∀ v' w', w'.ownsRow base e size v' m news → Below w.heap.size w w' → K (a.put o.dst v') w') :
    if Region.wanted o (yielded ops a.tmps) = true then Oper.wp P o a w K Q else E := by
  have hw : Region.wanted o (yielded ops a.tmps) = true := by simp [Region.wanted, hgd]
  rw [if_pos hw]
  exact wp_append_copy s x t ho base e i z size bytes ht hi hz hsize hby hzs hsz g hs hg hbg B A m c news hx hr h63 hbytes h
theorem wp_append_bel {o : Oper} {a : Act} {K : Act → World → Prop} {Q : Exit → Act → World → Prop} (s x : Operand) (t : TypeId)
    (ho : o.op = .call { callee := .builtin .append, args := #[s, x], argTypes := #[t, t] })
    (W : World) (base : Nat) (e : TypeId) (i : TypeInfo) (z : Value) (size bytes : Nat) (ht : P.underlying t = some (.slice e)) (hi : P.info? e = some i) (hz : i.zero = some z)
    (hsize : i.size = size) (hby : i.bytes = bytes) (hzs : z.cells.size = size) (hsz : 0 < size)
    (v : Value) (n : Nat) (xs : List Value) (hs : a.eval s = v) (hown : w.ownsRow base e size v n xs)
    (B : Nat) (A : Option Addr) (m c : Nat) (news : List Value) (hx : a.eval x = .slice A m c) (hr : Reads w B size A m news) (h1 : ∀ u ∈ news, u.oneCell' = true)
    (h63 : n + m ≤ 4294967296) (hbytes : bytes ≤ 64) (hbel : Below base W w) (hbase : base ≤ w.heap.size)
    (h : ∀ v' w', w'.ownsRow base e size v' (n + m) (xs ++ news) → Below base W w' → w.grownBy w' v.ownBlock → (v'.ownBlock = v.ownBlock ∨ v'.ownBlock = some w.heap.size) → K (a.put o.dst v') w') : o.wp P a w K Q :=
  wp_append_any w s x t ho base e i z size bytes ht hi hz hsize hby hzs hsz v n xs hs hown B A m c news hx hr h1 (by simp only [maxLen]; omega)
    (Nat.le_trans (Nat.mul_le_mul h63 hbytes) (by omega)) hbase fun v' w' h2 h3 h4 => h v' w' h2 (hbel.grown h3 hbase fun g hg => (hown.lt g hg).1) h3 h4
theorem step_append_bel {W : World} {ops : Array Oper} {o : Oper} {a : Act} {K : Act → World → Prop} {Q : Exit → Act → World → Prop} {E : Prop} (hgd : o.guard = none) (s x : Operand) (t : TypeId)
    (ho : o.op = .call { callee := .builtin .append, args := #[s, x], argTypes := #[t, t] })
    (base : Nat) (e : TypeId) (i : TypeInfo) (z : Value) (size bytes : Nat) (ht : P.underlying t = some (.slice e)) (hi : P.info? e = some i) (hz : i.zero = some z)
    (hsize : i.size = size) (hby : i.bytes = bytes) (hzs : z.cells.size = size) (hsz : 0 < size)
    (v : Value) (n : Nat) (xs : List Value) (hs : a.eval s = v) (hown : w.ownsRow base e size v n xs)
    (B : Nat) (A : Option Addr) (m c : Nat) (news : List Value) (hx : a.eval x = .slice A m c) (hr : Reads w B size A m news) (h1 : ∀ u ∈ news, u.oneCell' = true)
    (h63 : n + m ≤ 4294967296) (hbytes : bytes ≤ 64) (hbel : Below base W w) (hbase : base ≤ w.heap.size)
    (h : ∀ v' w', w'.ownsRow base e size v' (n + m) (xs ++ news) → Below base W w' → w.grownBy w' v.ownBlock → (v'.ownBlock = v.ownBlock ∨ v'.ownBlock = some w.heap.size) → K (a.put o.dst v') w') :
    if Region.wanted o (yielded ops a.tmps) = true then Oper.wp P o a w K Q else E :=
  step_append_any w hgd s x t ho base e i z size bytes ht hi hz hsize hby hzs hsz v n xs hs hown B A m c news hx hr h1 (by simp only [maxLen]; omega)
    (Nat.le_trans (Nat.mul_le_mul h63 hbytes) (by omega)) hbase fun v' w' h2 h3 h4 => h v' w' h2 (hbel.grown h3 hbase fun g hg => (hown.lt g hg).1) h3 h4
end
end Go.Proofs.Ytcbabfndfikejaa
/- Choices of stacks as trees, their hash, and how they lie in memory. No condition. -/
namespace Go.Proofs.Ytcbabfndfikejaa
open Go.RowKit
/-- The tops of a choice: each has a state, and a choice (its kind and its tops) below it. Kinds: 0 the empty stack, 1 one top, 2 an array. -/
inductive Tops where
  | nil
  | cons (s : Int) (k : Nat) (sub : Tops) (rest : Tops)
deriving DecidableEq
def Tops.len : Tops → Nat
  | .nil => 0
  | .cons _ _ _ r => r.len + 1
def Tops.sts : Tops → List Int
  | .nil => []
  | .cons s _ _ r => s :: r.sts
def hashOf (k : Nat) (hs ss : List Int) : Int := if k = 0 then 0 else murF (murL 1 (hs ++ ss)) (2 * ss.length)
/-- the hashes of what is below the tops -/
def Tops.hs : Tops → List Int
  | .nil => []
  | .cons _ k sub r => hashOf k sub.hs sub.sts :: r.hs
def hsh (k : Nat) (f : Tops) : Int := hashOf k f.hs f.sts
theorem Tops.hs_length : ∀ f : Tops, f.hs.length = f.len
  | .nil => rfl
  | .cons _ _ _ r => by simp [Tops.hs, Tops.len, Tops.hs_length r]
theorem Tops.sts_length : ∀ f : Tops, f.sts.length = f.len
  | .nil => rfl
  | .cons _ _ _ r => by simp [Tops.sts, Tops.len, Tops.sts_length r]
/-- The element types of what choices are made of: the struct, the row of pointers, the row of numbers. -/
def ctxTy (e : TypeId) : Prop := e = 97 ∨ e = 72 ∨ e = 3
/-- A row known in memory: n cells of type e from an address on, in a block that X does not name. -/
def Row (w : World) (X : Nat → Prop) (e : TypeId) (A : Option Addr) (n : Nat) (xs : List Value) : Prop :=
  xs.length = n ∧ (0 < n → ∃ g off cs, A = some ⟨g, off, none⟩ ∧ ¬ X g ∧ w.heap[g]? = some (.cells cs e (0, 0)) ∧ ∀ (j : Nat) u, xs[j]? = some u → cs[off + j]? = some u)
def NoX : Nat → Prop := fun _ => False
/-- What choices are made of, outside X, stays, and is outside X'. -/
def Move (X X' : Nat → Prop) (w w' : World) : Prop :=
  ∀ (g : Nat) cs e, ctxTy e → ¬ X g → w.heap[g]? = some (.cells cs e (0, 0)) → w'.heap[g]? = some (.cells cs e (0, 0)) ∧ ¬ X' g
/-- What choices are made of stays. -/
def Stay (w w' : World) : Prop := w.heap.size ≤ w'.heap.size ∧ ∀ (g : Nat) cs e, ctxTy e → w.heap[g]? = some (.cells cs e (0, 0)) → w'.heap[g]? = some (.cells cs e (0, 0))
theorem Stay.refl (w : World) : Stay w w := ⟨Nat.le_refl _, fun _ _ _ _ h => h⟩
theorem Stay.trans {a b c : World} (h : Stay a b) (k : Stay b c) : Stay a c := ⟨Nat.le_trans h.1 k.1, fun g cs e he hg => k.2 g cs e he (h.2 g cs e he hg)⟩
theorem Stay.of_below {w w' : World} (h : Below w.heap.size w w') : Stay w w' :=
  ⟨h.size, fun g _ _ _ hg => (h.block g (Array.getElem?_eq_some_iff.1 hg).1).trans hg⟩
theorem Stay.alloc {a w : World} (h : Stay a w) (o : Obj) : Stay a (w.alloc o) := h.trans (.of_below ((Below.refl _ _).alloc (Nat.le_refl _) o))
theorem Stay.drew {a w : World} (h : Stay a w) : Stay a w.drew := ⟨h.1, h.2⟩
theorem Stay.move {w w' : World} (h : Stay w w') (X : Nat → Prop) : Move X X w w' := fun g cs e he hx hg => ⟨h.2 g cs e he hg, hx⟩
theorem Move.trans {X Y Z : Nat → Prop} {a b c : World} (h : Move X Y a b) (k : Move Y Z b c) : Move X Z a c := fun g cs e he hx hg => by
  obtain ⟨h1, h2⟩ := h g cs e he hx hg
  exact k g cs e he h2 h1
theorem Row.move {w w' : World} {X X' : Nat → Prop} {e : TypeId} {A : Option Addr} {n : Nat} {xs : List Value} (h : Row w X e A n xs) (hs : Move X X' w w') (he : ctxTy e) : Row w' X' e A n xs :=
  ⟨h.1, fun hn => by
    obtain ⟨g, off, cs, hA, hx, hg, hc⟩ := h.2 hn
    obtain ⟨h1, h2⟩ := hs g cs e he hx hg
    exact ⟨g, off, cs, hA, h2, h1, hc⟩⟩
theorem Row.reads {w : World} {X : Nat → Prop} {e : TypeId} {A : Option Addr} {n : Nat} {xs : List Value} (h : Row w X e A n xs) : Reads w w.heap.size 1 A n xs :=
  ⟨by rw [h.1, Nat.mul_one], fun hn => by
    obtain ⟨g, off, cs, rfl, _, hg, hc⟩ := h.2 hn
    refine ⟨_, rfl, (Array.getElem?_eq_some_iff.1 hg).1, fun j u hu => ?_⟩
    rw [Addr.add_lit, cell_of_row _ _ _ _ _ _ hg]
    exact hc j u hu⟩
theorem Row.of_own {w : World} {X : Nat → Prop} {base : Nat} {e : TypeId} {n c : Nat} {A : Option Addr} {xs : List Value} (h : w.ownsRow base e 1 (.slice A n c) n xs)
    (hX : ∀ g, (Value.slice A n c).ownBlock = some g → ¬ X g) : Row w X e A n xs := by
  refine ⟨by rw [h.1, Nat.mul_one], fun hn => ?_⟩
  rcases h.2 with ⟨h1, h2⟩ | ⟨g, cap, cur, hv, _, hg, hnc, _, hsz, ht⟩
  · omega
  · have hx := hX g (by rw [hv]; rfl)
    injection hv with hA
    refine ⟨g, 0, cur, hA, hx, hg, fun j u hu => ?_⟩
    rw [← ht, List.getElem?_take] at hu
    split at hu
    · simpa using hu
    · cases hu
def ptrs (qs : List Addr) : List Value := qs.map fun q => Value.pointer (some q)
theorem ptrs_at {qs : List Addr} {k : Nat} {u : Value} (h : (ptrs qs)[k]? = some u) : ∃ q, qs[k]? = some q ∧ u = .pointer (some q) := by
  simp only [ptrs, List.getElem?_map, Option.map_eq_some_iff] at h
  obtain ⟨q, h1, h2⟩ := h
  exact ⟨q, h1, h2.symm⟩
/-- The struct of a choice at block g: its kind, its hash, its states, and the addresses of what is below. -/
def Shape (w : World) (X : Nat → Prop) (g : Nat) (k : Nat) (h : Int) (ss : List Int) (qs : List Addr) : Prop :=
  ¬ X g ∧ qs.length = ss.length ∧
  ((k = 0 ∧ ss = [] ∧ w.heap[g]? = some (.cells #[.int .i64 h, .int .i64 0, .pointer none, .int .i64 2147483647, .slice none 0 0, .slice none 0 0] 97 (0, 0))) ∨
   (k = 1 ∧ ∃ s q, ss = [s] ∧ qs = [q] ∧ w.heap[g]? = some (.cells #[.int .i64 h, .int .i64 1, .pointer (some q), .int .i64 s, .slice none 0 0, .slice none 0 0] 97 (0, 0))) ∨
   (k = 2 ∧ ∃ A c A' c', w.heap[g]? = some (.cells #[.int .i64 h, .int .i64 2, .pointer none, .int .i64 0, .slice A ss.length c, .slice A' ss.length c'] 97 (0, 0)) ∧ Row w X 72 A ss.length (ptrs qs) ∧ Row w X 3 A' ss.length (ints ss)))
theorem Shape.move {w w' : World} {X X' : Nat → Prop} {g k : Nat} {h : Int} {ss : List Int} {qs : List Addr} (H : Shape w X g k h ss qs) (hs : Move X X' w w') : Shape w' X' g k h ss qs := by
  obtain ⟨hx, h0, H⟩ := H
  rcases H with ⟨h1, h2, h3⟩ | ⟨h1, s, q, h2, h3, h4⟩ | ⟨h1, A, c, A', c', h2, h3, h4⟩
  · obtain ⟨m1, m2⟩ := hs _ _ _ (.inl rfl) hx h3
    exact ⟨m2, h0, .inl ⟨h1, h2, m1⟩⟩
  · obtain ⟨m1, m2⟩ := hs _ _ _ (.inl rfl) hx h4
    exact ⟨m2, h0, .inr (.inl ⟨h1, s, q, h2, h3, m1⟩)⟩
  · obtain ⟨m1, m2⟩ := hs _ _ _ (.inl rfl) hx h2
    exact ⟨m2, h0, .inr (.inr ⟨h1, A, c, A', c', m1, h3.move hs (.inr (.inl rfl)), h4.move hs (.inr (.inr rfl))⟩)⟩
/-- The choices below tops lie at addresses. -/
def Subs (w : World) (X : Nat → Prop) : Tops → List Addr → Prop
  | .nil, qs => qs = []
  | .cons _ k sub r, qs => ∃ g qr, qs = ⟨g, 0, none⟩ :: qr ∧ (∃ qs', Shape w X g k (hsh k sub) sub.sts qs' ∧ Subs w X sub qs') ∧ Subs w X r qr
/-- The choice (k, f) lies at p, outside X. -/
def Rep (w : World) (X : Nat → Prop) (p : Addr) (k : Nat) (f : Tops) : Prop := ∃ g, p = ⟨g, 0, none⟩ ∧ ∃ qs, Shape w X g k (hsh k f) f.sts qs ∧ Subs w X f qs
theorem Subs.move {w w' : World} {X X' : Nat → Prop} (hs : Move X X' w w') : ∀ (f : Tops) (qs : List Addr), Subs w X f qs → Subs w' X' f qs
  | .nil, _, h => h
  | .cons _ _ sub r, _, ⟨g, qr, h1, ⟨qs', h2, h3⟩, h4⟩ => ⟨g, qr, h1, ⟨qs', h2.move hs, Subs.move hs sub qs' h3⟩, Subs.move hs r qr h4⟩
theorem Rep.move {w w' : World} {X X' : Nat → Prop} {p : Addr} {k : Nat} {f : Tops} (h : Rep w X p k f) (hs : Move X X' w w') : Rep w' X' p k f := by
  obtain ⟨g, hp, qs, h1, h2⟩ := h
  exact ⟨g, hp, qs, h1.move hs, Subs.move hs f qs h2⟩
theorem Rep.stay {w w' : World} {X : Nat → Prop} {p : Addr} {k : Nat} {f : Tops} (h : Rep w X p k f) (hs : Stay w w') : Rep w' X p k f := h.move (hs.move X)
theorem Subs.stay {w w' : World} {X : Nat → Prop} {f : Tops} {qs : List Addr} (h : Subs w X f qs) (hs : Stay w w') : Subs w' X f qs := h.move (hs.move X) f qs
theorem Row.stay {w w' : World} {X : Nat → Prop} {e : TypeId} {A : Option Addr} {n : Nat} {xs : List Value} (h : Row w X e A n xs) (hs : Stay w w') (he : ctxTy e) : Row w' X e A n xs := h.move (hs.move X) he
theorem Subs.length {w : World} {X : Nat → Prop} : ∀ (f : Tops) (qs : List Addr), Subs w X f qs → qs.length = f.len
  | .nil, _, h => by rw [h]; rfl
  | .cons _ _ sub r, _, ⟨g, qr, h1, _, h4⟩ => by rw [h1]; simp [Tops.len, Subs.length r qr h4]
/-- The choice below top i. -/
def Tops.at? : Tops → Nat → Option (Int × Nat × Tops)
  | .nil, _ => none
  | .cons s k sub _, 0 => some (s, k, sub)
  | .cons _ _ _ r, i + 1 => r.at? i
theorem Subs.at_ {w : World} {X : Nat → Prop} : ∀ (f : Tops) (qs : List Addr) (i : Nat) (q : Addr), Subs w X f qs → qs[i]? = some q → ∃ s k sub, f.at? i = some (s, k, sub) ∧ Rep w X q k sub
  | .nil, qs, i, q, h, hi => by rw [h] at hi; simp at hi
  | .cons s k sub r, qs, 0, q, ⟨g, qr, h1, h2, _⟩, hi => by
    rw [h1] at hi; simp at hi; subst hi
    exact ⟨s, k, sub, rfl, g, rfl, h2⟩
  | .cons s k sub r, qs, i + 1, q, ⟨g, qr, h1, _, h4⟩, hi => by
    rw [h1] at hi; simp at hi
    exact Subs.at_ r qr i q h4 hi
theorem Tops.at_hs : ∀ (f : Tops) (i : Nat) (s : Int) (k : Nat) (sub : Tops), f.at? i = some (s, k, sub) → f.hs[i]? = some (hsh k sub) ∧ f.sts[i]? = some s
  | .nil, _, _, _, _, h => by simp [Tops.at?] at h
  | .cons _ _ _ _, 0, _, _, _, h => by simp [Tops.at?] at h; obtain ⟨rfl, rfl, rfl⟩ := h; exact ⟨rfl, rfl⟩
  | .cons _ _ _ r, i + 1, s, k, sub, h => by simpa [Tops.hs, Tops.sts] using Tops.at_hs r i s k sub h
/-- The cells of a choice's struct: its hash and its kind. -/
theorem Rep.head {w : World} {X : Nat → Prop} {p : Addr} {k : Nat} {f : Tops} (h : Rep w X p k f) : ∃ g c2 c3 c4 c5, p = ⟨g, 0, none⟩ ∧ ¬ X g ∧ w.heap[g]? = some (.cells #[.int .i64 (hsh k f), .int .i64 k, c2, c3, c4, c5] 97 (0, 0)) := by
  obtain ⟨g, hp, qs, ⟨hx, _, H⟩, _⟩ := h
  rcases H with ⟨rfl, h2, h3⟩ | ⟨rfl, s, q, h2, h3, h4⟩ | ⟨rfl, A, c, A', c', h2, h3, h4⟩
  · exact ⟨g, _, _, _, _, hp, hx, h3⟩
  · exact ⟨g, _, _, _, _, hp, hx, h4⟩
  · exact ⟨g, _, _, _, _, hp, hx, h2⟩
theorem Rep.cell {w : World} {X : Nat → Prop} {p : Addr} {k : Nat} {f : Tops} (h : Rep w X p k f) : ∃ g, p = ⟨g, 0, none⟩ ∧ w.cell? ⟨g, 0, none⟩ = some (.int .i64 (hsh k f)) ∧ w.cell? ⟨g, 1, none⟩ = some (.int .i64 k) := by
  obtain ⟨g, c2, c3, c4, c5, hp, _, hg⟩ := h.head
  exact ⟨g, hp, by rw [cell_of_row _ _ _ _ _ _ hg]; rfl, by rw [cell_of_row _ _ _ _ _ _ hg]; rfl⟩
end Go.Proofs.Ytcbabfndfikejaa
/- The walks of what makes a choice: the empty one, one top, an array; and of what reads its hash. Conditions: what is below lies in memory. -/
namespace Go.Proofs.Ytcbabfndfikejaa
open Go.RowKit
/-- A new choice is handed back; nothing that was there has turned. -/
def NewPost (X : Nat → Prop) (k : Nat) (f : Tops) (w : World) (e : Ending) (w' : World) : Prop := ∃ p, e = .returned (.pointer (some p)) ∧ Rep w' X p k f ∧ Below w.heap.size w w'
def OldX (X : Nat → Prop) (w : World) : Prop := ∀ g, X g → g < w.heap.size
theorem OldX.new {X : Nat → Prop} {w : World} (h : OldX X w) : ¬ X w.heap.size := fun hx => Nat.lt_irrefl _ (h _ hx)
theorem OldX.ext {X : Nat → Prop} {w w' : World} (h : OldX X w) (hs : w.heap.size ≤ w'.heap.size) : OldX X w' := fun g hg => Nat.lt_of_lt_of_le (h g hg) hs
theorem EMPTY_any (X : Nat → Prop) (w : World) (hX : OldX X w) : Calls Try.prog 64 #[] w (NewPost X 0 .nil w) := by
  go_enter Try.func64, Try.ntmps64
  go_wp2
  go_ret
  refine ⟨_, rfl, ⟨_, rfl, [], ⟨hX.new, rfl, .inl ⟨rfl, rfl, heap_alloc_new w _⟩⟩, rfl⟩, (Below.refl _ _).alloc (Nat.le_refl _) _⟩
def IntPost (r : Int) (w : World) (e : Ending) (w' : World) : Prop := e = .returned (.int .i64 r) ∧ w = w'
theorem Hash_any (X : Nat → Prop) (p : Addr) (k : Nat) (f : Tops) (w : World) (h : Rep w X p k f) : Calls Try.prog 53 #[.pointer (some p)] w (IntPost (hsh k f) w) := by
  obtain ⟨g, rfl, c0, c1⟩ := h.cell
  clear h
  go_enter Try.func53, Try.ntmps53
  go_wp2
  go_ret
  exact ⟨rfl, rfl⟩
theorem calculateHash_any (X : Nat → Prop) (p : Addr) (k : Nat) (f : Tops) (s : Int) (w : World) (h : Rep w X p k f) : Calls Try.prog 90 #[.pointer (some p), .int .i64 s] w (IntPost (murF (murU (murU 1 (hsh k f)) s) 2) w) := by
  have H := Lib.hid h
  clear h
  go_enter Try.func90, Try.ntmps90
  go_wp2_with (first
    | (go_at_call 47; refine (murmurInit_any _ _).mono ?_; rintro e w' ⟨rfl, rfl⟩)
    | (go_at_call 53; refine (Hash_any _ _ _ _ _ H.out).mono ?_; rintro e w' ⟨rfl, rfl⟩)
    | (go_at_call 48; refine (murmurUpdate_any _ _ _).mono ?_; rintro e w' ⟨rfl, rfl⟩)
    | (go_at_call 49; refine (murmurFinish_any _ _ _).mono ?_; rintro e w' ⟨rfl, rfl⟩))
  go_ret
  exact ⟨rfl, rfl⟩
theorem hsh_single (s : Int) (k : Nat) (f : Tops) : hsh 1 (.cons s k f .nil) = murF (murU (murU 1 (hsh k f)) s) 2 := by
  simp [hsh, hashOf, Tops.hs, Tops.sts, murL]
theorem subs_hash {w : World} {X : Nat → Prop} {f : Tops} {qs : List Addr} {i : Nat} {q : Addr} (h : Subs w X f qs) (hi : qs[i]? = some q) : ∃ k sub, Rep w X q k sub ∧ f.hs[i]? = some (hsh k sub) := by
  obtain ⟨s, k, sub, h1, h2⟩ := Subs.at_ f qs i q h hi
  exact ⟨k, sub, h2, (Tops.at_hs f i s k sub h1).1⟩
theorem hsh_array (f : Tops) : hsh 2 f = murF (murL (murL 1 f.hs) f.sts) (2 * f.len) := by
  have : ∀ (h : Int) (l m : List Int), murL h (l ++ m) = murL (murL h l) m := by
    intro h l m
    induction l generalizing h with
    | nil => rfl
    | cons a l ih => exact ih _
  simp [hsh, hashOf, this, Tops.sts_length]
end Go.Proofs.Ytcbabfndfikejaa
/- The walks over the given table: that it fits, that it is good, and its copies. No condition but that the table reads. -/
namespace Go.Proofs.Ytcbabfndfikejaa
open Go.RowKit
/-- What a test promises: if it says yes, then p; and nothing that was there has turned. -/
def YesPost (p : Prop) (w : World) (e : Ending) (w' : World) : Prop := ∃ r : Bool, e = .returned (.bool r) ∧ (r = true → p) ∧ Below w.heap.size w w'
theorem below_alloc2 {B : Nat} {a w : World} (h : Below B a w) (hB : B ≤ w.heap.size) (o o' : Obj) : Below B a ((w.alloc o).alloc o') := (h.alloc hB o).alloc (by simp; omega) o'
theorem zzFits2_any (Ap As : Option Addr) (np cp ns cs : Nat) (w : World) :
    Calls Try.prog 35 #[.agg #[.slice Ap np cp, .slice As ns cs]] w (YesPost True w) := by
  go_enter Try.func35, Try.ntmps35
  go_wp2
  all_goals (go_ret; exact ⟨_, rfl, fun _ => trivial, (Below.refl _ _).alloc (Nat.le_refl _) _⟩)
set_option maxHeartbeats 800000 in
theorem zzFits1_any (A : Option Addr) (c : Nat) (ns : List Nd) (w : World) (ht : Tbl w w.heap.size A ns) (hm : ns.length ≤ 9223372036854775807) :
    Calls Try.prog 16 #[.slice A ns.length c] w (YesPost (ns.length ≤ 2147483647) w) := by
  by_cases hn : 2147483647 < ns.length
  · go_enter Try.func16, Try.ntmps16
    go_wp2
    go_ret
    exact ⟨_, rfl, fun h => by simp at h, Below.refl _ _⟩
  · go_enter Try.func16, Try.ntmps16
    go_wp2_with fail
    go_loopw [10] (fun i wr => ∃ k : Nat, k ≤ ns.length ∧ i = .int .i64 k ∧ Below w.heap.size w wr) (fun i _ => ns.length - (intOf i).toNat)
    case atStart => exact ⟨0, Nat.zero_le _, rfl, Below.refl _ _⟩
    case round =>
      obtain ⟨k, hk, rfl, hb⟩ := hrel
      by_cases hlt : k < ns.length
      · obtain ⟨b, off, Ap, cp, As, cs, rfl, _, cu, cv, _, _⟩ := (ht.below hb).at_ (List.getElem?_eq_getElem hlt)
        clear ht
        generalize (ns[k]).ps.length = np at *
        generalize (ns[k]).ss.length = nq at *
        go_wp2_with fail
        refine (zzFits2_any _ _ _ _ _ _ _).mono ?_
        rintro e w' ⟨r, rfl, _, hb2⟩
        have hb3 := (hb.alloc hb.size _).trans (hb2.mono (by simp; have := hb.size; omega))
        clear hb2 hb cu cv
        cases r
        · go_wp2_with fail
          go_ret
          exact ⟨_, rfl, fun h => by simp at h, hb3⟩
        · go_wp2_with fail
          go_roundw
          case rel => exact ⟨k + 1, by omega, by go_num, hb3⟩
          case measure => simp [intOf]; omega
      · go_wp2_with fail
        go_ret
        exact ⟨_, rfl, fun _ => by omega, hb⟩
end Go.Proofs.Ytcbabfndfikejaa
/- The walk of spec.Good: if it says yes, the table is as the documentation of a table says. Condition: at most 2147483647 nodes. -/
namespace Go.Proofs.Ytcbabfndfikejaa
open Go.RowKit
def TopOk (i : Nat) (nd : Nd) (k : Nat) : Prop := ∃ s p : Int, nd.ss[k]? = some s ∧ nd.ps[k]? = some p ∧ 0 ≤ s ∧ s ≤ 1000 ∧ 0 ≤ p ∧ p < i ∧ (0 < k → ∃ s', nd.ss[k - 1]? = some s' ∧ s' < s)
def NdOk (i : Nat) (nd : Nd) : Prop := nd.ps.length = nd.ss.length ∧ nd.ss.length ≤ 4 ∧ ∀ k, k < nd.ss.length → TopOk i nd k
def NdsOk (ns : List Nd) (k : Nat) : Prop := ∀ i nd, i < k → ns[i]? = some nd → NdOk i nd
def GoodT (ns : List Nd) : Prop := ns.length ≤ 10 ∧ NdsOk ns ns.length
theorem NdsOk.succ {ns : List Nd} {k : Nat} {nd : Nd} (h : NdsOk ns k) (hk : ns[k]? = some nd) (hn : NdOk k nd) : NdsOk ns (k + 1) := by
  intro i nd' hi hi'
  rcases Nat.lt_or_ge i k with h1 | h1
  · exact h i nd' h1 hi'
  · have : i = k := by omega
    subst this
    rw [hk] at hi'; cases hi'; exact hn
set_option maxHeartbeats 2000000 in
theorem specGood_any (A : Option Addr) (c : Nat) (ns : List Nd) (w : World) (ht : Tbl w w.heap.size A ns) (hm : ns.length ≤ 2147483647) :
    Calls Try.prog 18 #[.slice A ns.length c] w (YesPost (GoodT ns) w) := by
  go_enter Try.func18, Try.ntmps18
  go_wp2_with fail
  go_loopw [9] (fun i wr => ∃ k : Nat, k ≤ ns.length ∧ i = .int .i64 k ∧ Below w.heap.size w wr ∧ Hid (NdsOk ns k)) (fun i _ => ns.length - (intOf i).toNat)
  case atStart => exact ⟨0, Nat.zero_le _, rfl, Below.refl _ _, fun i _ hi => absurd hi (by omega)⟩
  case round =>
    obtain ⟨k, hk, rfl, hb, HO⟩ := hrel
    by_cases hlt : k < ns.length
    · have hkn := List.getElem?_eq_getElem hlt
      obtain ⟨b, off, Ap, cp, As, cs, rfl, hbb, cu, cv, rp, rs⟩ := (ht.below hb).at_ hkn
      generalize ns[k] = nd at *
      have HK := Lib.hid hkn
      clear ht hkn
      by_cases hpl : nd.ps.length = nd.ss.length
      · by_cases h4 : nd.ss.length ≤ 4
        · rw [hpl] at cu rp
          have HP := Lib.hid hpl
          clear hpl
          have hbs := hb.size
          go_wp2_with fail
          go_loop [30] (fun i => ∃ m : Nat, m ≤ nd.ss.length ∧ i = .int .i64 m ∧ Hid (∀ j, j < m → TopOk k nd j)) (fun i => nd.ss.length - (intOf i).toNat)
          case atStart => exact ⟨0, Nat.zero_le _, rfl, fun j hj => absurd hj (by omega)⟩
          case round =>
            obtain ⟨m, hmm, rfl, HM⟩ := hrel
            by_cases hml : m < nd.ss.length
            · obtain ⟨b1, off1, u1, rfl, hb1, hu1, hc1⟩ := rs.at1 hml
              obtain ⟨s, hs, rfl⟩ := ints_at hu1
              obtain ⟨b2, off2, u2, rfl, hb2, hu2, hc2⟩ := rp.at1 hml
              obtain ⟨p, hp, rfl⟩ := ints_at hu2
              have HS := Lib.hid hs
              have HPP := Lib.hid hp
              have hl1 : b1 < wr.heap.size := by omega
              have hl2 : b2 < wr.heap.size := by omega
              obtain ⟨s', hs'⟩ : ∃ s' : Int, 0 < m → nd.ss[m - 1]? = some s' ∧ wr.cell? ⟨b1, off1 + (m - 1), none⟩ = some (.int .i64 s') := by
                by_cases h0 : 0 < m
                · obtain ⟨b3, off3, u3, e3, _, hu3, hc3⟩ := rs.at1 (k := m - 1) (by omega)
                  cases e3
                  obtain ⟨s', hs', rfl⟩ := ints_at hu3
                  exact ⟨s', fun _ => ⟨hs', hc3⟩⟩
                · exact ⟨0, fun h => absurd h h0⟩
              have HS' := Lib.hid (fun h0 => (hs' h0).1)
              have hc3 := fun h0 => (hs' h0).2
              have hb2' := hb.alloc hb.size (Obj.cells #[Value.slice (some { block := b2, off := off2 }) nd.ss.length cp, Value.slice (some { block := b1, off := off1 }) nd.ss.length cs] 32)
              clear hs hp hu1 hu2 hs' hb rs rp HK HO HP
              go_wp2_with fail
              all_goals first
                | (go_ret; exact ⟨_, rfl, fun h => by simp at h, hb2'⟩)
                | (go_round
                   case rel =>
                     refine ⟨m + 1, by omega, by go_num, fun j hj => ?_⟩
                     by_cases hj' : j < m
                     · exact HM.out j hj'
                     · obtain rfl : j = m := by omega
                       exact ⟨s, p, HS.out, HPP.out, by omega, by omega, by omega, by omega, fun h0 => ⟨s', HS'.out h0, by omega⟩⟩
                   case measure => simp [intOf]; omega)
            · have hme : m = nd.ss.length := by omega
              have HM2 := Lib.hid (NdsOk.succ HO.out HK.out ⟨HP.out, h4, by rw [← hme]; exact HM.out⟩)
              have hb1 := hb.alloc hb.size (Obj.cells #[Value.slice Ap nd.ss.length cp, Value.slice As nd.ss.length cs] 32)
              clear hme HM HK HP HO hb rp rs
              go_wp2_with fail
              go_roundw
              case rel => exact ⟨k + 1, by omega, by go_num, hb1, HM2⟩
              case measure => simp [intOf]; omega
        · go_wp2_with fail
          go_ret
          exact ⟨_, rfl, fun h => by simp at h, hb.alloc hb.size _⟩
      · have hne : ¬ ((nd.ps.length : Int) = (nd.ss.length : Int)) := by omega
        go_wp2_with fail
        go_ret
        exact ⟨_, rfl, fun h => by simp at h, hb.alloc hb.size _⟩
    · go_wp2_with fail
      go_ret
      have : k = ns.length := by omega
      subst this
      exact ⟨_, rfl, fun h => ⟨by simp at h; omega, HO.out⟩, hb⟩
end Go.Proofs.Ytcbabfndfikejaa
/- The walk of laws.nodes: the reference table has the nodes of the given one. Condition: at most 2147483647 nodes. -/
namespace Go.Proofs.Ytcbabfndfikejaa
open Go.RowKit
theorem spec_info : (Try.prog.info? 32).map (fun i => (i.zero, i.size, i.bytes)) = some (some (.agg #[.slice none 0 0, .slice none 0 0]), 2, 48) := by kernel_rfl
def OwnPost (e : TypeId) (size n : Nat) (xs : List Value) (w : World) (en : Ending) (w' : World) : Prop := ∃ v, en = .returned v ∧ w'.ownsRow w.heap.size e size v n xs ∧ Below w.heap.size w w'
def Slices (xs : List Value) : Prop := ∀ (j : Nat) (u : Value), xs[j]? = some u → ∃ (A : Option Addr) (n c : Nat), u = Value.slice A n c
theorem take2 {xs : List Value} {k : Nat} {u v : Value} (hu : xs[k * 2]? = some u) (hv : xs[k * 2 + 1]? = some v) : xs.take ((k + 1) * 2) = xs.take (k * 2) ++ [u, v] := by
  rw [show (k + 1) * 2 = k * 2 + 1 + 1 by omega, take_snoc' _ _ _ hv, take_snoc' _ _ _ hu]
  simp
set_option maxHeartbeats 800000 in
theorem lawsNodes_any (A : Option Addr) (c n : Nat) (xs : List Value) (w : World) (hr : Reads w w.heap.size 2 A n xs) (hs : Slices xs) (hm : n ≤ 2147483647) :
    Calls Try.prog 17 #[.slice A n c] w (OwnPost 32 2 n xs w) := by
  obtain ⟨i0, hi0, hz0, hz1, hz2⟩ := info_parts spec_info
  go_enter Try.func17, Try.ntmps17
  go_wp2_with fail
  go_loopw [3, 9] (fun o i wr => ∃ k : Nat, k ≤ n ∧ i = .int .i64 k ∧ wr.ownsRow w.heap.size 32 2 o k (xs.take (k * 2)) ∧ Below w.heap.size w wr) (fun _ i _ => n - (intOf i).toNat)
  case atStart => exact ⟨0, Nat.zero_le _, rfl, World.ownsRow_made w #[] 0 (Nat.le_refl _) (by simp [maxLen]) rfl, (Below.refl _ _).alloc (Nat.le_refl _) _⟩
  case round =>
    obtain ⟨k, hk, rfl, hown, hb⟩ := hrel
    by_cases hlt : k < n
    · obtain ⟨b, off, u, v, rfl, hbb, hu, hv, cu, cv⟩ := (hr.below hb).at2 hlt
      obtain ⟨A1, n1, c1, rfl⟩ := hs _ _ hu
      obtain ⟨A2, n2, c2, rfl⟩ := hs _ _ hv
      have HT := Lib.hid (take2 hu hv)
      clear hu hv hr
      go_wp2_with (first
        | (at_builtin
           go_must (refine wpList_append_bel rfl (.tmp 13) (.tmp 19) _ rfl w w.heap.size 32 i0 _ 2 48 Try.underlying27 hi0 hz0 hz1 hz2 rfl (by omega) _ k (xs.take (k * 2)) rfl ((hown.alloc _).alloc _) _ _ 1 1 _ rfl (reads_new (by simp) rfl) (by simp [Value.oneCell']) (by omega) (by omega) (below_alloc2 hb hb.size _ _) (by simp; have := hb.size; omega) ?_)
           intro v1 w1 hown1 hb1 _ _))
      have hown2 : w1.ownsRow w.heap.size 32 2 v1 (k + 1) (xs.take ((k + 1) * 2)) := by rw [HT.out]; exact hown1
      clear hown1 hown hb cu cv
      go_wp2_with fail
      go_roundw
      case rel => exact ⟨k + 1, by omega, by go_num, hown2, hb1⟩
      case measure => simp [intOf]; omega
    · go_wp2_with fail
      go_ret
      have hkn : k = n := by omega
      subst hkn
      rw [List.take_of_length_le (by have := hr.1; omega)] at hown
      exact ⟨_, rfl, hown, hb⟩
end Go.Proofs.Ytcbabfndfikejaa
/- The walks of spec.In and of impl.nodes: the package has a copy of the table. Condition: the table is good. -/
namespace Go.Proofs.Ytcbabfndfikejaa
open Go.RowKit
theorem specIn_any (A : Option Addr) (n c : Nat) (a : Int) (w : World) :
    Calls Try.prog 19 #[.slice A n c, .int .i64 a] w fun e w' => e = .returned (.bool (decide (0 ≤ a) && decide (a < n))) ∧ w = w' := by
  by_cases h : 0 ≤ a
  · go_enter Try.func19, Try.ntmps19
    go_wp2_with fail
    go_ret
    exact ⟨by simp [h], rfl⟩
  · have h' : decide (0 ≤ a) = false := by simpa using h
    go_enter Try.func19, Try.ntmps19
    go_wp2_with fail
    go_ret
    exact ⟨by simp, rfl⟩
theorem antlr_info : (Try.prog.info? 76).map (fun i => (i.zero, i.size, i.bytes)) = some (some (.agg #[.slice none 0 0, .slice none 0 0]), 2, 48) := by kernel_rfl
/-- a slice of the call's own that has the nodes, each with slices of the call's own -/
def OwnTbl (w : World) (base : Nat) (e : TypeId) (v : Value) (ns : List Nd) : Prop :=
  ∃ xs, w.ownsRow base e 2 v ns.length xs ∧ ∀ i nd, ns[i]? = some nd → ∃ u u', xs[i * 2]? = some u ∧ xs[i * 2 + 1]? = some u' ∧ w.ownsRow base 3 1 u nd.ps.length (ints nd.ps) ∧ w.ownsRow base 3 1 u' nd.ss.length (ints nd.ss)
theorem below_alloc' {a b : World} (h : Below a.heap.size a b) (o : Obj) : Below a.heap.size a (b.alloc o) := h.alloc h.size o
theorem heap_new' {w : World} {o : Obj} {g : Nat} (hg : w.heap.size = g) : (w.alloc o).heap[g]? = some o := by subst hg; exact heap_alloc_new w o
theorem heap_old' {w : World} {o : Obj} {g : Nat} (hg : g < w.heap.size) : (w.alloc o).heap[g]? = w.heap[g]? := heap_alloc_old w o hg
theorem below_drew' {a b : World} (h : Below a.heap.size a b) : Below a.heap.size a b.drew := h.drew
theorem cell_alloc {w : World} {p : Addr} {v : Value} (h : w.cell? p = some v) (o : Obj) : (w.alloc o).cell? p = some v := (World.cell?_alloc_lt w o p (World.block_lt_of_cell? w p h)).trans h
theorem cell_drew {w : World} {p : Addr} {v : Value} (h : w.cell? p = some v) : w.drew.cell? p = some v := h
theorem cell_bel {w w' : World} {p : Addr} {v : Value} (h : w.cell? p = some v) (hb : Below w.heap.size w w') : w'.cell? p = some v := (hb.cell (World.block_lt_of_cell? w p h)).trans h
theorem own_ne {w : World} {base base' : Nat} {e e' : TypeId} {size size' n n' : Nat} {v v' : Value} {xs xs' : List Value} (h : w.ownsRow base e size v n xs) (h' : w.ownsRow base' e' size' v' n' xs') (hne : e ≠ e') :
    v.ownBlock = none ∨ v.ownBlock ≠ v'.ownBlock := by
  rcases h.2 with ⟨rfl, _⟩ | ⟨g, cap, cur, rfl, _, hg, _⟩
  · exact .inl rfl
  · right
    rcases h'.2 with ⟨rfl, _⟩ | ⟨g', cap', cur', rfl, _, hg', _⟩
    · simp [Value.ownBlock]
    · intro he
      have : g = g' := by simpa [Value.ownBlock] using he
      subst this
      rw [hg] at hg'
      injection hg' with hg'
      injection hg' with _ ht
      exact hne ht
theorem OwnTbl.ext {w w' : World} {base : Nat} {e : TypeId} {v : Value} {ns : List Nd} (h : OwnTbl w base e v ns) (hb : Below w.heap.size w w') : OwnTbl w' base e v ns := by
  obtain ⟨xs, h1, h2⟩ := h
  refine ⟨xs, ownsRow_ext h1 hb, fun i nd hi => ?_⟩
  obtain ⟨u, u', hu, hu', r1, r2⟩ := h2 i nd hi
  exact ⟨u, u', hu, hu', ownsRow_ext r1 hb, ownsRow_ext r2 hb⟩
theorem OwnTbl.snoc {w w' : World} {base : Nat} {e : TypeId} {v v' u u' : Value} {ns : List Nd} {nd : Nd} {xs : List Value} (he : e ≠ 3)
    (h1 : w.ownsRow base e 2 v ns.length xs) (h2 : ∀ i nd, ns[i]? = some nd → ∃ u u', xs[i * 2]? = some u ∧ xs[i * 2 + 1]? = some u' ∧ w.ownsRow base 3 1 u nd.ps.length (ints nd.ps) ∧ w.ownsRow base 3 1 u' nd.ss.length (ints nd.ss))
    (hu : w.ownsRow base 3 1 u nd.ps.length (ints nd.ps)) (hu' : w.ownsRow base 3 1 u' nd.ss.length (ints nd.ss))
    (h3 : w'.ownsRow base e 2 v' (ns.length + 1) (xs ++ [u, u'])) (hg : w.grownBy w' v.ownBlock) : OwnTbl w' base e v' (ns ++ [nd]) := by
  have hl := h1.1
  refine ⟨xs ++ [u, u'], by simpa using h3, fun i nd' hi => ?_⟩
  have kp : ∀ {x : Value} {l : List Int}, w.ownsRow base 3 1 x l.length (ints l) → w'.ownsRow base 3 1 x l.length (ints l) := fun hx => hx.kept hg (own_ne hx h1 (Ne.symm he))
  rcases Nat.lt_or_ge i ns.length with hlt | hge
  · rw [List.getElem?_append_left hlt] at hi
    obtain ⟨x, x', hx, hx', r1, r2⟩ := h2 i nd' hi
    exact ⟨x, x', by rw [List.getElem?_append_left (by omega)]; exact hx, by rw [List.getElem?_append_left (by omega)]; exact hx', kp r1, kp r2⟩
  · rw [List.getElem?_append_right hge] at hi
    have : i = ns.length := by
      rcases Nat.eq_zero_or_pos (i - ns.length) with h0 | h0
      · omega
      · rw [List.getElem?_eq_none (by simp; omega)] at hi; cases hi
    subst this
    simp at hi
    subst hi
    exact ⟨u, u', by rw [List.getElem?_append_right (by omega)]; simp [hl], by rw [List.getElem?_append_right (by omega)]; simp [hl], kp hu, kp hu'⟩
theorem own_drew {w : World} {base : Nat} {e : TypeId} {size : Nat} {v : Value} {n : Nat} {xs : List Value} (h : w.ownsRow base e size v n xs) : w.drew.ownsRow base e size v n xs := h
theorem OwnTbl.snoc2 {W0 W w' : World} {base : Nat} {e : TypeId} {v v' u u' : Value} {ns : List Nd} {nd : Nd} {xs : List Value} (he : e ≠ 3)
    (h0 : W0.ownsRow base e 2 v ns.length xs ∧ ∀ i nd, ns[i]? = some nd → ∃ u u', xs[i * 2]? = some u ∧ xs[i * 2 + 1]? = some u' ∧ W0.ownsRow base 3 1 u nd.ps.length (ints nd.ps) ∧ W0.ownsRow base 3 1 u' nd.ss.length (ints nd.ss))
    (hX : Below W0.heap.size W0 W) (hu : W.ownsRow base 3 1 u nd.ps.length (ints nd.ps)) (hu' : W.ownsRow base 3 1 u' nd.ss.length (ints nd.ss))
    (h3 : w'.ownsRow base e 2 v' (ns.length + 1) (xs ++ [u, u'])) (hg : W.grownBy w' v.ownBlock) : OwnTbl w' base e v' (ns ++ [nd]) :=
  OwnTbl.snoc he (ownsRow_ext h0.1 hX) (fun i nd hi => by
    obtain ⟨u, u', hu, hu', r1, r2⟩ := h0.2 i nd hi
    exact ⟨u, u', hu, hu', ownsRow_ext r1 hX, ownsRow_ext r2 hX⟩) hu hu' h3 hg
set_option maxHeartbeats 4000000 in
theorem implNodes_any (A : Option Addr) (c : Nat) (ns : List Nd) (w : World) (ht : Tbl w w.heap.size A ns) (hg : GoodT ns) :
    Calls Try.prog 37 #[.slice A ns.length c] w (fun e w' => ∃ v, e = .returned v ∧ OwnTbl w' w.heap.size 76 v ns ∧ Below w.heap.size w w') := by
  obtain ⟨i0, hi0, hz0, hz1, hz2⟩ := info_parts antlr_info
  obtain ⟨j0, hj0, hy0, hy1, hy2⟩ := info_parts int_info
  have hm := hg.1
  have HG := Lib.hid hg
  clear hg
  go_enter Try.func37, Try.ntmps37
  go_wp2_with fail
  go_loopw [3, 9] (fun o i wr => ∃ k : Nat, k ≤ ns.length ∧ i = .int .i64 k ∧ OwnTbl wr w.heap.size 76 o (ns.take k) ∧ Below w.heap.size w wr) (fun _ i _ => ns.length - (intOf i).toNat)
  case atStart => exact ⟨0, Nat.zero_le _, rfl, ⟨[], World.ownsRow_made w #[] 0 (Nat.le_refl _) (by simp [maxLen]) rfl, fun i nd hi => by simp at hi⟩, (Below.refl _ _).alloc (Nat.le_refl _) _⟩
  case round =>
    obtain ⟨k, hk, rfl, hown, hb⟩ := hrel
    by_cases hlt : k < ns.length
    · have hkn := List.getElem?_eq_getElem hlt
      obtain ⟨b, off, Ap, cp, As, cs, rfl, hbb, cu, cv, rp, rs⟩ := (ht.below hb).at_ hkn
      generalize ns[k] = nd at *
      have hok := HG.out.2 k nd hlt hkn
      have HK := Lib.hid (take_snoc' ns k nd hkn)
      have hn1 : nd.ps.length ≤ 4 := by have := hok.1; have := hok.2.1; omega
      have hn2 : nd.ss.length ≤ 4 := hok.2.1
      obtain ⟨xs, ho1, ho2⟩ := hown
      have HO1 := Lib.hid ho1
      have HO2 := Lib.hid ho2
      have HP := Lib.hid rp
      have HS := Lib.hid rs
      have hbs := hb.size
      have HB := Lib.hid hb
      clear ht hkn hok ho1 ho2 rp rs hb
      go_wp2_with fail
      obtain ⟨W0, hW0⟩ : ∃ W0, W0 = wr.alloc (Obj.cells #[Value.slice Ap nd.ps.length cp, Value.slice As nd.ss.length cs] 56) := ⟨_, rfl⟩
      have hbW : Below wr.heap.size wr W0 := by rw [hW0]; exact (Below.refl _ _).alloc (Nat.le_refl _) _
      have hbsW : wr.heap.size + 1 ≤ W0.heap.size := by rw [hW0]; simp
      have c0 : W0.cell? ⟨wr.heap.size, 0, none⟩ = some (.slice Ap nd.ps.length cp) := by rw [hW0]; simp [World.cell?_alloc_new]
      have c1 : W0.cell? ⟨wr.heap.size, 1, none⟩ = some (.slice As nd.ss.length cs) := by rw [hW0]; simp [World.cell?_alloc_new]
      rw [← hW0]
      have HPW : Hid (Reads W0 w.heap.size 1 Ap nd.ps.length (ints nd.ps)) := HP.out.below (hbW.mono hbs)
      have HSW : Hid (Reads W0 w.heap.size 1 As nd.ss.length (ints nd.ss)) := HS.out.below (hbW.mono hbs)
      have HOW : Hid (W0.ownsRow w.heap.size 76 2 u3 (ns.take k).length xs) := ownsRow_ext HO1.out hbW
      have HBW : Hid (Below w.heap.size w W0) := below_trans' HB.out hbs hbW
      have HO2W : Hid (∀ i nd, (ns.take k)[i]? = some nd → ∃ u u', xs[i * 2]? = some u ∧ xs[i * 2 + 1]? = some u' ∧ W0.ownsRow w.heap.size 3 1 u nd.ps.length (ints nd.ps) ∧ W0.ownsRow w.heap.size 3 1 u' nd.ss.length (ints nd.ss)) := fun i nd hi => by
        obtain ⟨u, u', hu, hu', r1, r2⟩ := HO2.out i nd hi
        exact ⟨u, u', hu, hu', ownsRow_ext r1 hbW, ownsRow_ext r2 hbW⟩
      have HNE : Hid (some wr.heap.size ≠ u3.ownBlock) := fun he => by have := (HO1.out.lt _ he.symm).2; omega
      clear hW0
      go_region_held3 (fun w' => w'.cell? ⟨wr.heap.size, 0, none⟩ = some (.slice Ap nd.ps.length cp) ∧ w'.cell? ⟨wr.heap.size, 1, none⟩ = some (.slice As nd.ss.length cs))
        ((refine ⟨?_, ?_⟩ <;> repeat (first | with_reducible assumption | with_reducible refine cell_drew ?_ | with_reducible refine cell_alloc ?_ _ | with_reducible refine World.grownBy.cell hg3 ?_ HNE.out | with_reducible refine cell_bel ?_ hb2 | with_reducible refine cell_bel ?_ hb1)))
        (first
          | (refine step_append_copy (by rfl) (.tmp 14) (.tmp 16) 22 (by rfl) w.heap.size 3 j0 (.int .i64 0) 1 8 Try.underlying22 hj0 hy0 hy1 hy2 rfl (by omega) _ (by rfl) ?_ ?_ w.heap.size Ap nd.ps.length cp (ints nd.ps) (by rfl) (Reads.below HPW.out (Below.mono (B := W0.heap.size) ?_ (by omega))) (by omega) (by omega) ?_
             · first | (refine heap_new' ?_; (first | (simp; done) | (simp; omega)); done) | (refine (heap_old' ?_).trans (heap_new' ?_) <;> (first | (simp; done) | (simp; omega)); done) | (refine (hb1.block _ ?_).trans (heap_new' ?_) <;> (first | (simp; done) | (simp; omega)); done) | (refine (hb1.block _ ?_).trans ((heap_old' ?_).trans (heap_new' ?_)) <;> (first | (simp; done) | (simp; omega)); done)
             · first | omega | (have hz1 := hb1.size; simp at hz1; omega) | (have hz2 := hb2.size; simp at hz2; omega)
             · (repeat (first | with_reducible exact Below.refl _ _ | with_reducible refine below_alloc' ?_ _ | with_reducible refine below_drew' ?_ | with_reducible refine below_trans ?_ hb2 | with_reducible refine below_trans ?_ hb1))
             intro v1 w1 hown1 hb1
             obtain ⟨A1, c1, rfl, hr1⟩ := own_slice hown1)
          | (refine step_append_copy (by rfl) (.tmp 18) (.tmp 20) 22 (by rfl) w.heap.size 3 j0 (.int .i64 0) 1 8 Try.underlying22 hj0 hy0 hy1 hy2 rfl (by omega) _ (by rfl) ?_ ?_ w.heap.size As nd.ss.length cs (ints nd.ss) (by rfl) (Reads.below HSW.out (Below.mono (B := W0.heap.size) ?_ (by omega))) (by omega) (by omega) ?_
             · first | (refine heap_new' ?_; (first | (simp; done) | (simp; omega)); done) | (refine (heap_old' ?_).trans (heap_new' ?_) <;> (first | (simp; done) | (simp; omega)); done) | (refine (hb1.block _ ?_).trans (heap_new' ?_) <;> (first | (simp; done) | (simp; omega)); done) | (refine (hb1.block _ ?_).trans ((heap_old' ?_).trans (heap_new' ?_)) <;> (first | (simp; done) | (simp; omega)); done)
             · first | omega | (have hz1 := hb1.size; simp at hz1; omega) | (have hz2 := hb2.size; simp at hz2; omega)
             · (repeat (first | with_reducible exact Below.refl _ _ | with_reducible refine below_alloc' ?_ _ | with_reducible refine below_drew' ?_ | with_reducible refine below_trans ?_ hb2 | with_reducible refine below_trans ?_ hb1))
             intro v2 w2 hown2 hb2
             obtain ⟨A2, c2, rfl, hr2⟩ := own_slice hown2)
          | (refine step_append_bel (by rfl) (.tmp 13) (.tmp 23) 59 (by rfl) w.heap.size 76 i0 _ 2 48 Try.underlying59 hi0 hz0 hz1 hz2 rfl (by omega) u3 (ns.take k).length xs (by rfl) (ownsRow_ext HOW.out ?_) _ _ 1 1 _ (by rfl) (reads_new (by simp) rfl) (by simp [Value.oneCell']) (by simp; omega) (by omega) (W := w) (below_trans' HBW.out (by omega) ?_) (Nat.le_trans (show w.heap.size ≤ W0.heap.size by omega) (Below.size (w := W0) (B := W0.heap.size) ?_)) ?_
             · (repeat (first | with_reducible exact Below.refl _ _ | with_reducible refine below_alloc' ?_ _ | with_reducible refine below_drew' ?_ | with_reducible refine below_trans ?_ hb2 | with_reducible refine below_trans ?_ hb1))
             · (repeat (first | with_reducible exact Below.refl _ _ | with_reducible refine below_alloc' ?_ _ | with_reducible refine below_drew' ?_ | with_reducible refine below_trans ?_ hb2 | with_reducible refine below_trans ?_ hb1))
             · (repeat (first | with_reducible exact Below.refl _ _ | with_reducible refine below_alloc' ?_ _ | with_reducible refine below_drew' ?_ | with_reducible refine below_trans ?_ hb2 | with_reducible refine below_trans ?_ hb1))
             intro v3 w3 hown3 hb3 hg3 _))
      all_goals
        have HT : Hid (OwnTbl w3 w.heap.size 76 v3 (ns.take k ++ [nd])) := by
          refine OwnTbl.snoc2 (by decide) ⟨HOW.out, HO2W.out⟩ ?_ ?_ ?_ hown3 hg3
          · (repeat (first | with_reducible exact Below.refl _ _ | with_reducible refine below_alloc' ?_ _ | with_reducible refine below_drew' ?_ | with_reducible refine below_trans ?_ hb2 | with_reducible refine below_trans ?_ hb1))
          · (repeat (first | with_reducible exact hown1 | with_reducible exact hown2 | with_reducible refine World.ownsRow.alloc ?_ _ | with_reducible refine own_drew ?_ | with_reducible refine ownsRow_ext ?_ hb2 | with_reducible refine ownsRow_ext ?_ hb1))
          · (repeat (first | with_reducible exact hown1 | with_reducible exact hown2 | with_reducible refine World.ownsRow.alloc ?_ _ | with_reducible refine own_drew ?_ | with_reducible refine ownsRow_ext ?_ hb2 | with_reducible refine ownsRow_ext ?_ hb1))
        clear hown3 hg3 hown1 hown2 hb1 hb2 hr1 hr2
        go_wp2_with fail
        go_roundw
        case rel => exact ⟨k + 1, by omega, by go_num, by rw [HK.out]; exact HT.out, hb3⟩
        case measure => simp [intOf]; omega
    · have hkn : k = ns.length := by omega
      have HKN := Lib.hid hkn
      have HOWN := Lib.hid hown
      clear hkn hown
      go_wp2_with fail
      go_ret
      refine ⟨_, rfl, ?_, hb⟩
      have h := HOWN.out
      rwa [HKN.out, List.take_length] at h
end Go.Proofs.Ytcbabfndfikejaa
/- A region that draws its order may be walked in one order: first what only reads, then the chain of what writes, if each reading yields the same in all worlds that meet S, and S holds behind each writing but the last. -/
namespace Go.Proofs.Ytcbabfndfikejaa
section
variable {P : Program} {ops : Array Oper} {Q : Exit → Act → World → Prop} {S : World → Prop}
/-- Does operation j wait for all others? -/
def closing (ops : Array Oper) (j : Nat) : Bool := match ops[j]? with
  | some o => (List.range ops.size).all fun k => k == j || o.after.any fun e => Region.binds .any e && e.on == k
  | none => false
theorem closing_spec {listed : Array Bool} {i j : Nat} (hc : closing ops j = true) (hj : j ∈ Region.ready .any ops listed) (hi : i ∈ Region.ready .any ops listed) (hne : j ≠ i) : False := by
  obtain ⟨_, oj, hoj, hall⟩ := mem_ready.1 hj
  obtain ⟨hun, oi, hoi, _⟩ := mem_ready.1 hi
  have hlt : i < ops.size := (Array.getElem?_eq_some_iff.1 hoi).1
  simp only [closing, hoj, List.all_eq_true, List.mem_range, Bool.or_eq_true, beq_iff_eq, Array.any_eq_true', Bool.and_eq_true] at hc
  rcases hc i hlt with h | ⟨e, he, hb, hon⟩
  · exact hne h.symm
  · have := hall e he hb
    rw [hon] at this
    rcases Nat.lt_or_ge i listed.size with h' | h'
    · simp [h'] at this hun; rw [hun] at this; cases this
    · simp [Array.getElem?_eq_none h'] at this
def wpAnyL (P : Program) (ops : Array Oper) (Q : Exit → Act → World → Prop) (S : World → Prop) : Nat → Array Bool → Act → World → Prop
  | 0, listed, a, w => Region.ready .any ops listed = [] ∧ Q .normal a w
  | fuel + 1, listed, a, w =>
    (Region.ready .any ops listed = [] → Q .normal a w) ∧
    ∀ i ∈ Region.ready .any ops listed, wpOp P ops Q i (fun a' w' => (closing ops i = true ∨ S w') ∧ wpAnyL P ops Q S fuel (listed.setIfInBounds i true) a' w') a w
theorem wpAny_of_L : ∀ (fuel : Nat) (listed : Array Bool) (a : Act) (w : World), wpAnyL P ops Q S fuel listed a w → wpAny P .any ops Q fuel listed a w
  | 0, _, _, _, h => h
  | fuel + 1, _, _, _, h => ⟨h.1, fun i hi => wpOp_mono (fun a' w' h' => wpAny_of_L fuel _ a' w' h'.2) (h.2 i hi)⟩
theorem wpAnyL_first {i : Nat} {oi : Oper} {v : Value} (hi : ops[i]? = some oi) (hsel : ∀ (j : Nat) (o : Oper) cs b, ops[j]? = some o → o.op ≠ .select cs b)
    (hQ : ∀ c a w, Q (.panic c) (a.put oi.dst v) w → Q (.panic c) a w) :
    ∀ (fuel : Nat) (listed : Array Bool) (a : Act) (w : World),
      (∀ j oj, ops[j]? = some oj → j ≠ i → listed.getD j true = false → (∀ e ∈ oj.after, Region.binds .any e = true → e.on ≠ i) → oi.apart ops oj = true) →
      i ∈ Region.ready .any ops listed → YieldsIf P ops S oi v a → S w →
      wpAnyL P ops Q S fuel (listed.setIfInBounds i true) (a.put oi.dst v) w → wpAnyL P ops Q S (fuel + 1) listed a w := by
  intro fuel
  induction fuel with
  | zero =>
    intro listed a w _ hr hy hS H
    refine ⟨fun h => (by rw [h] at hr; cases hr), fun j hj => ?_⟩
    by_cases hji : j = i
    · subst hji; exact hy.wpOp hi hS ⟨.inr hS, H⟩
    · have := ready_mono hj hji
      rw [H.1] at this
      cases this
  | succ fuel ih =>
    intro listed a w hfree hr hy hS H
    refine ⟨fun h => (by rw [h] at hr; cases hr), fun j hj => ?_⟩
    by_cases hji : j = i
    · subst hji; exact hy.wpOp hi hS ⟨.inr hS, H⟩
    · have h1 := H.2 j (ready_mono hj hji)
      obtain ⟨hjun, oj, hoj, hall⟩ := mem_ready.1 hj
      have hnot : ∀ e ∈ oj.after, Region.binds .any e = true → e.on ≠ i := fun e he hb heq => by
        have h1 := hall e he hb
        have h0 := (mem_ready.1 hr).1
        rw [heq] at h1
        rcases Nat.lt_or_ge i listed.size with h' | h'
        · simp [h'] at h0 h1; rw [h0] at h1; cases h1
        · simp [Array.getElem?_eq_none h'] at h1
      have h2 := wpOp_putIf hoj (hfree j oj hoj hji hjun hnot) (fun cs b => hsel i oi cs b hi) (fun cs b => hsel j oj cs b hoj) hQ hy h1
      have hfree' : ∀ k ok, ops[k]? = some ok → k ≠ i → (listed.setIfInBounds j true).getD k true = false →
          (∀ e ∈ ok.after, Region.binds .any e = true → e.on ≠ i) → oi.apart ops ok = true := fun k ok hk hki hun hno => by
        refine hfree k ok hk hki ?_ hno
        by_cases hjk : j = k
        · subst hjk; exact hjun
        · rw [getD_set_ne true hjk] at hun; exact hun
      refine wpOp_mono (fun a' w' h3 => ?_) h2
      have hS' : S w' := h3.2.1.resolve_left (fun hc => closing_spec hc hj hr hji)
      refine ⟨.inr hS', ih (listed.setIfInBounds j true) a' w' hfree' (ready_mono hr (Ne.symm hji)) h3.1 hS' ?_⟩
      rw [Array.setIfInBounds_comm _ _ hji]
      exact h3.2.2
/-- What only reads, one behind the other: each yields its value in every world that meets S. -/
def Takes (P : Program) (ops : Array Oper) (S : World → Prop) : List Nat → Act → Act → Prop
  | [], a, a' => a = a'
  | i :: r, a, a' => ∃ o v, ops[i]? = some o ∧ YieldsIf P ops S o v a ∧ Takes P ops S r (a.put o.dst v) a'
theorem Takes.nil {a : Act} : Takes P ops S [] a a := rfl
theorem Takes.cons {i : Nat} {r : List Nat} {o : Oper} {v : Value} {a a' : Act} (ho : ops[i]? = some o) (hw : Region.wanted o (yielded ops a.tmps) = true)
    (hv : ∀ w, S w → (execOp a.eval o).run P w = .ok (.value v) w) (h : Takes P ops S r (a.put o.dst v) a') : Takes P ops S (i :: r) a a' := ⟨o, v, ho, .inl ⟨hw, hv⟩, h⟩
theorem Takes.pass {i : Nat} {r : List Nat} {o : Oper} {a a' : Act} (ho : ops[i]? = some o) (hw : Region.wanted o (yielded ops a.tmps) = false)
    (h : Takes P ops S r (a.put o.dst undef) a') : Takes P ops S (i :: r) a a' := ⟨o, undef, ho, .inr ⟨hw, rfl⟩, h⟩
def okF (ops : Array Oper) : Array Bool → List Nat → Bool
  | _, [] => true
  | listed, i :: r => Region.free .any ops listed i && (Region.ready .any ops listed).contains i && okF ops (listed.setIfInBounds i true) r
def setAll (listed : Array Bool) : List Nat → Array Bool
  | [] => listed
  | i :: r => setAll (listed.setIfInBounds i true) r
theorem wpAnyL_takes (hs : Region.noSelect ops = true) (hQ : ∀ (d : Option Tmp) (v : Value) c a w, Q (.panic c) (a.put d v) w → Q (.panic c) a w) :
    ∀ (F : List Nat) (fuel : Nat) (listed : Array Bool) (a a' : Act) (w : World), okF ops listed F = true → Takes P ops S F a a' → S w → wpAnyL P ops Q S fuel (setAll listed F) a' w → wpAnyL P ops Q S (fuel + F.length) listed a w := by
  intro F
  induction F with
  | nil => intro fuel listed a a' w _ ht _ h; cases ht; exact h
  | cons i r ih =>
    intro fuel listed a a' w hok ht hS h
    obtain ⟨o, v, ho, hy, ht'⟩ := ht
    simp only [okF, Bool.and_eq_true] at hok
    have h1 := ih fuel (listed.setIfInBounds i true) (a.put o.dst v) a' w hok.2 ht' hS h
    exact wpAnyL_first ho (Region.noSelect_spec hs) (hQ _ _) _ listed a w (Region.free_spec ho hok.1.1) (by simpa using hok.1.2) hy hS h1
/-- What is forced, one behind the other. -/
def Chain (P : Program) (ops : Array Oper) (Q : Exit → Act → World → Prop) (S : World → Prop) : List Nat → Act → World → Prop
  | [], a, w => Q .normal a w
  | i :: r, a, w => wpOp P ops Q i (fun a' w' => (closing ops i = true ∨ S w') ∧ Chain P ops Q S r a' w') a w
def okC (ops : Array Oper) : Array Bool → List Nat → Bool
  | listed, [] => Region.ready .any ops listed == []
  | listed, i :: r => Region.ready .any ops listed == [i] && okC ops (listed.setIfInBounds i true) r
theorem wpAnyL_chain : ∀ (C : List Nat) (listed : Array Bool) (a : Act) (w : World), okC ops listed C = true → Chain P ops Q S C a w → wpAnyL P ops Q S C.length listed a w := by
  intro C
  induction C with
  | nil => intro listed a w hok h; exact ⟨by simpa [okC] using hok, h⟩
  | cons i r ih =>
    intro listed a w hok h
    simp only [okC, Bool.and_eq_true, beq_iff_eq] at hok
    refine ⟨fun h0 => (by rw [hok.1] at h0; cases h0), fun j hj => ?_⟩
    rw [hok.1] at hj
    have : j = i := by simpa using hj
    subst this
    exact wpOp_mono (fun a' w' h' => ⟨h'.1, ih _ a' w' hok.2 h'.2⟩) h
def okOrder (ops : Array Oper) (F C : List Nat) : Bool :=
  Region.noSelect ops && okF ops (Array.replicate ops.size false) F && okC ops (setAll (Array.replicate ops.size false) F) C && (C.length + F.length == ops.size)
/-- The same, what follows behind it. -/
def TakesThen (P : Program) (ops : Array Oper) (S : World → Prop) : List Nat → Act → (Act → Prop) → Prop
  | [], a, K => K a
  | i :: r, a, K => ∃ o v, ops[i]? = some o ∧ YieldsIf P ops S o v a ∧ TakesThen P ops S r (a.put o.dst v) K
theorem TakesThen.nil {a : Act} {K : Act → Prop} (h : K a) : TakesThen P ops S [] a K := h
theorem TakesThen.cons {i : Nat} {r : List Nat} {o : Oper} {v : Value} {a : Act} {K : Act → Prop} (ho : ops[i]? = some o) (hw : Region.wanted o (yielded ops a.tmps) = true)
    (hv : ∀ w, S w → (execOp a.eval o).run P w = .ok (.value v) w) (h : TakesThen P ops S r (a.put o.dst v) K) : TakesThen P ops S (i :: r) a K := ⟨o, v, ho, .inl ⟨hw, hv⟩, h⟩
theorem TakesThen.pass {i : Nat} {r : List Nat} {o : Oper} {a : Act} {K : Act → Prop} (ho : ops[i]? = some o) (hw : Region.wanted o (yielded ops a.tmps) = false)
    (h : TakesThen P ops S r (a.put o.dst undef) K) : TakesThen P ops S (i :: r) a K := ⟨o, undef, ho, .inr ⟨hw, rfl⟩, h⟩
theorem TakesThen.spec : ∀ (F : List Nat) (a : Act) (K : Act → Prop), TakesThen P ops S F a K → ∃ a', Takes P ops S F a a' ∧ K a'
  | [], a, _, h => ⟨a, rfl, h⟩
  | _ :: r, a, K, ⟨o, v, ho, hy, h⟩ => by
    obtain ⟨a', h1, h2⟩ := TakesThen.spec r _ K h
    exact ⟨a', ⟨o, v, ho, hy, h1⟩, h2⟩
theorem wp_region_order {id : Nat} {a : Act} {w : World} (S : World → Prop) (F C : List Nat) (hm : P.follows .mixedOrders = true) (hok : okOrder ops F C = true) (hS : S w.drew)
    (h : TakesThen P ops S F a fun a' => Chain P ops (NoPanic Q) S C a' w.drew) : (Code.region id ops true).wp P Q a w := by
  simp only [okOrder, Bool.and_eq_true, beq_iff_eq] at hok
  obtain ⟨a', ht, h⟩ := TakesThen.spec _ _ _ h
  refine wp_region_noPanic (wp_region_any hm (wpAny_of_L (S := S) _ _ _ _ ?_))
  have key := wpAnyL_takes (P := P) (Q := NoPanic Q) hok.1.1.1 (fun _ _ _ _ _ h => h) F C.length _ _ _ w.drew hok.1.1.2 ht hS (wpAnyL_chain C _ _ _ hok.1.2 h)
  rw [hok.2] at key
  exact key
theorem Chain.step {i : Nat} {r : List Nat} {o : Oper} {a : Act} {w : World} (ho : ops[i]? = some o) (hg : o.guard = none)
    (h : ∀ K : Act → World → Prop, (∀ a w, S w → Chain P ops Q S r a w → K a w) → o.wp P a w K Q) : Chain P ops Q S (i :: r) a w := by
  show wpOp P ops Q i _ a w
  unfold wpOp
  simp only [ho, Region.wanted, hg, if_true]
  exact .inl (h _ (fun a w h1 h2 => ⟨.inr h1, h2⟩))
theorem Chain.last {i : Nat} {o : Oper} {a : Act} {w : World} (hc : closing ops i = true) (ho : ops[i]? = some o) (hg : o.guard = none)
    (h : ∀ K : Act → World → Prop, (∀ a w, Q .normal a w → K a w) → o.wp P a w K Q) : Chain P ops Q S [i] a w := by
  show wpOp P ops Q i _ a w
  unfold wpOp
  simp only [ho, Region.wanted, hg, if_true]
  exact .inl (h _ (fun a w h1 => ⟨.inl hc, h1⟩))
theorem Chain.nil {a : Act} {w : World} (h : Q .normal a w) : Chain P ops (NoPanic Q) S [] a w := h
end
end Go.Proofs.Ytcbabfndfikejaa
