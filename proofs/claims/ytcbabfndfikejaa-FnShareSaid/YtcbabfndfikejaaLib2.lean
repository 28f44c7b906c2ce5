/- Predicates on memory for tables of nodes: a slice of structs of two slices reads as a list of nodes. No condition. -/
import Derived.Test.YtcbabfndfikejaaLib
import Derived.Test.YtcbabfndfikejaaMur3
namespace Go.Proofs.Ytcbabfndfikejaa
open Go.RowKit

theorem addr_of_cell {w : World} {ad : Addr} {j : Nat} {u : Value} (h : w.cell? (ad.add j) = some u) : ad.add j = ⟨ad.block, ad.off + j, none⟩ := by
  unfold World.cell? at h
  rw [block_of_add] at h
  split at h
  · split at h
    · cases h
    · rename_i hs
      unfold Addr.add at hs ⊢
      by_cases h0 : j = 0
      · subst h0
        cases ad; simp_all
      · simp_all
  · cases h

section
variable {w w' : World} {B B' size n : Nat} {A : Option Addr} {xs : List Value}
theorem Reads.lit (h : Reads w B size A n xs) (hn : 0 < n) (hs : 0 < size) : ∃ b off, A = some ⟨b, off, none⟩ ∧ b < B ∧ ∀ j u, xs[j]? = some u → w.cell? ⟨b, off + j, none⟩ = some u := by
  obtain ⟨ad, rfl, hb, hc⟩ := h.2 hn
  have hl : 0 < xs.length := by rw [h.1]; exact Nat.mul_pos hn hs
  have h0 := hc 0 _ (List.getElem?_eq_getElem hl)
  have e0 := addr_of_cell h0
  have e0' : ad = ⟨ad.block, ad.off, none⟩ := by
    have : ad.add 0 = ad := by unfold Addr.add; rw [if_pos rfl]
    rw [this] at e0; simpa using e0
  refine ⟨ad.block, ad.off, by rw [← e0'], hb, fun j u hu => ?_⟩
  have h1 := hc j u hu
  rwa [addr_of_cell h1] at h1
theorem Reads.at1 {k : Nat} (h : Reads w B 1 A n xs) (hk : k < n) : ∃ b off u, A = some ⟨b, off, none⟩ ∧ b < B ∧ xs[k]? = some u ∧ w.cell? ⟨b, off + k, none⟩ = some u := by
  obtain ⟨b, off, e, hb, hc⟩ := h.lit (by omega) (by omega)
  have hl : k < xs.length := by have := h.1; omega
  exact ⟨b, off, xs[k], e, hb, List.getElem?_eq_getElem hl, hc k _ (List.getElem?_eq_getElem hl)⟩
theorem Reads.at2 {k : Nat} (h : Reads w B 2 A n xs) (hk : k < n) : ∃ b off u v, A = some ⟨b, off, none⟩ ∧ b < B ∧ xs[k * 2]? = some u ∧ xs[k * 2 + 1]? = some v ∧
    w.cell? ⟨b, off + k * 2, none⟩ = some u ∧ w.cell? ⟨b, off + k * 2 + 1, none⟩ = some v := by
  obtain ⟨b, off, e, hb, hc⟩ := h.lit (by omega) (by omega)
  have hl : k * 2 + 1 < xs.length := by have := h.1; omega
  exact ⟨b, off, xs[k * 2], xs[k * 2 + 1], e, hb, List.getElem?_eq_getElem (by omega), List.getElem?_eq_getElem hl, hc _ _ (List.getElem?_eq_getElem (by omega)), hc _ _ (List.getElem?_eq_getElem hl)⟩
end

/-- A node of a table: what is below each top, and the tops. -/
structure Nd where
  ps : List Int
  ss : List Int

def NdVal (w : World) (B : Nat) (u v : Value) (nd : Nd) : Prop :=
  ∃ A c A' c', u = .slice A nd.ps.length c ∧ v = .slice A' nd.ss.length c' ∧ Reads w B 1 A nd.ps.length (ints nd.ps) ∧ Reads w B 1 A' nd.ss.length (ints nd.ss)
def Tbl (w : World) (B : Nat) (A : Option Addr) (ns : List Nd) : Prop :=
  ∃ xs, Reads w B 2 A ns.length xs ∧ ∀ i nd, ns[i]? = some nd → ∃ u v, xs[i * 2]? = some u ∧ xs[i * 2 + 1]? = some v ∧ NdVal w B u v nd

theorem NdVal.keep {w w' : World} {B : Nat} {u v : Value} {nd : Nd} (h : NdVal w B u v nd) (hk : ∀ p : Addr, p.block < B → w'.cell? p = w.cell? p) : NdVal w' B u v nd := by
  obtain ⟨A, c, A', c', h1, h2, h3, h4⟩ := h
  exact ⟨A, c, A', c', h1, h2, h3.keep hk, h4.keep hk⟩
theorem NdVal.more {w : World} {B B' : Nat} {u v : Value} {nd : Nd} (h : NdVal w B u v nd) (hB : B ≤ B') : NdVal w B' u v nd := by
  obtain ⟨A, c, A', c', h1, h2, h3, h4⟩ := h
  exact ⟨A, c, A', c', h1, h2, h3.more hB, h4.more hB⟩
theorem Tbl.keep {w w' : World} {B : Nat} {A : Option Addr} {ns : List Nd} (h : Tbl w B A ns) (hk : ∀ p : Addr, p.block < B → w'.cell? p = w.cell? p) : Tbl w' B A ns := by
  obtain ⟨xs, h1, h2⟩ := h
  refine ⟨xs, h1.keep hk, fun i nd hi => ?_⟩
  obtain ⟨u, v, hu, hv, h3⟩ := h2 i nd hi
  exact ⟨u, v, hu, hv, h3.keep hk⟩
theorem Tbl.below {w w' : World} {B : Nat} {A : Option Addr} {ns : List Nd} (h : Tbl w B A ns) (hb : Below B w w') : Tbl w' B A ns := h.keep fun _ hp => hb.cell hp
theorem Tbl.more {w : World} {B B' : Nat} {A : Option Addr} {ns : List Nd} (h : Tbl w B A ns) (hB : B ≤ B') : Tbl w B' A ns := by
  obtain ⟨xs, h1, h2⟩ := h
  refine ⟨xs, h1.more hB, fun i nd hi => ?_⟩
  obtain ⟨u, v, hu, hv, h3⟩ := h2 i nd hi
  exact ⟨u, v, hu, hv, h3.more hB⟩
/-- Node k of a table that reads. -/
theorem Tbl.at_ {w : World} {B : Nat} {A : Option Addr} {ns : List Nd} (h : Tbl w B A ns) {k : Nat} {nd : Nd} (hk : ns[k]? = some nd) : ∃ b off Ap cp As cs, A = some ⟨b, off, none⟩ ∧ b < B ∧
    w.cell? ⟨b, off + k * 2, none⟩ = some (.slice Ap nd.ps.length cp) ∧ w.cell? ⟨b, off + k * 2 + 1, none⟩ = some (.slice As nd.ss.length cs) ∧
    Reads w B 1 Ap nd.ps.length (ints nd.ps) ∧ Reads w B 1 As nd.ss.length (ints nd.ss) := by
  obtain ⟨xs, h1, h2⟩ := h
  have hlt : k < ns.length := (List.getElem?_eq_some_iff.1 hk).1
  obtain ⟨b, off, u, v, e, hb, hu, hv, cu, cv⟩ := h1.at2 hlt
  obtain ⟨u', v', hu', hv', A1, c1, A2, c2, rfl, rfl, r1, r2⟩ := h2 k nd hk
  rw [hu] at hu'; rw [hv] at hv'
  cases hu'; cases hv'
  exact ⟨b, off, A1, c1, A2, c2, e, hb, cu, cv, r1, r2⟩

theorem reads_new {w : World} {cs : Array Value} {e : TypeId} {size n g : Nat} (hg : w.heap.size = g) (hs : cs.size = n * size) : Reads (w.alloc (.cells cs e)) (g + 1) size (some ⟨g, 0, none⟩) n cs.toList := by
  subst hg
  exact ⟨by simpa using hs, fun _ => ⟨_, rfl, Nat.lt_succ_self _, fun j u hu => by
    have hadd : (⟨w.heap.size, 0, none⟩ : Addr).add j = ⟨w.heap.size, j, none⟩ := by unfold Addr.add; split <;> simp_all
    rw [hadd, cell_of_row _ _ _ _ _ _ (heap_alloc_new w (.cells cs e))]
    simpa using hu⟩⟩

/-- append onto a row of the call's own; what was there below base stays. -/
theorem wpList_append_bel {P : Program} {w : World} {ops : Array Oper} {rest : List Oper} {o : Oper} {a : Act} {Q : Exit → Act → World → Prop} (hgd : o.guard = none) (s x : Operand) (t : TypeId)
    (ho : o.op = .call { callee := .builtin .append, args := #[s, x], argTypes := #[t, t] })
    (W : World) (base : Nat) (e : TypeId) (i : TypeInfo) (z : Value) (size bytes : Nat) (ht : P.underlying t = some (.slice e)) (hi : P.info? e = some i) (hz : i.zero = some z)
    (hsize : i.size = size) (hby : i.bytes = bytes) (hzs : z.cells.size = size) (hsz : 0 < size)
    (v : Value) (n : Nat) (xs : List Value) (hs : a.eval s = v) (hown : w.ownsRow base e size v n xs)
    (B : Nat) (A : Option Addr) (m c : Nat) (news : List Value) (hx : a.eval x = .slice A m c) (hr : Reads w B size A m news) (h1 : ∀ u ∈ news, u.oneCell' = true)
    (h63 : n + m ≤ 4294967296) (hbytes : bytes ≤ 64) (hbel : Below base W w) (hbase : base ≤ w.heap.size)
    (h : ∀ v' w', w'.ownsRow base e size v' (n + m) (xs ++ news) → Below base W w' → w.grownBy w' v.ownBlock → (v'.ownBlock = v.ownBlock ∨ v'.ownBlock = some w.heap.size) → wpList P ops Q rest (a.put o.dst v') w') : wpList P ops Q (o :: rest) a w :=
  wpList_append_any w hgd s x t ho base e i z size bytes ht hi hz hsize hby hzs hsz v n xs hs hown B A m c news hx hr h1 (by simp only [maxLen]; omega)
    (Nat.le_trans (Nat.mul_le_mul h63 hbytes) (by omega)) hbase fun v' w' h2 h3 h4 => h v' w' h2 (hbel.grown h3 hbase fun g hg => (hown.lt g hg).1) h3 h4
end Go.Proofs.Ytcbabfndfikejaa
