/- The walk of ZZCombineCommonParents. Condition: the table is good, the numbers are nodes of it. -/
import Derived.Test.YtcbabfndfikejaaComb
import Derived.Laws.MakeOwn
namespace Go.Proofs.Ytcbabfndfikejaa
open Go.RowKit
set_option linter.unusedSimpArgs false

theorem run_make_rowN {P : Program} (t e : TypeId) (i : TypeInfo) (z : Value) (ht : P.underlying t = some (.slice e)) (hi : P.info? e = some i) (hz : i.zero = some z)
    (kl kc : IntKind) (n c : Nat) (hnc : n ≤ c) (hbytes : i.bytes * c ≤ 281474976710656) (h63 : c ≤ 9223372036854775807) (w : World) :
    (Instr.makeSlice t (.int kl (n : Int)) (.int kc (c : Int))).run P w = .ok (.slice (some ⟨w.heap.size, 0, none⟩) n c) (w.alloc (.cells (madeCells z.cells (c * i.size)) e)) := by
  have hb : (i.bytes : Int) * (c : Int) ≤ 281474976710656 := by
    have h : ((i.bytes * c : Nat) : Int) ≤ 281474976710656 := by omega
    rwa [Int.natCast_mul] at h
  have hr := run_make (P := P) w t e i z ht hi hz kl kc n c (by omega) (by omega) hb (by omega)
  simp only [Int.toNat_natCast] at hr
  exact hr

/-- the place of the first one that is equal -/
def fidx (l : List Kn) (x : Kn) : Nat := l.findIdx (treeIs x.2.1 x.2.2)
theorem treeIs_self (x : Kn) : treeIs x.2.1 x.2.2 x = true := decide_eq_true rfl
theorem fidx_spec {l : List Kn} {i : Nat} {x : Kn} (h : l[i]? = some x) : fidx l x ≤ i ∧ ∃ y, l[fidx l x]? = some y ∧ y.2 = x.2 ∧ fstOf l x = y.1 ∧ ∀ j, j < fidx l x → ∀ z, l[j]? = some z → z.2 ≠ x.2 := by
  have hmem : x ∈ l := List.mem_of_getElem? h
  have hlt : fidx l x < l.length := List.findIdx_lt_length_of_exists ⟨x, hmem, treeIs_self x⟩
  have hy := List.getElem?_eq_getElem hlt
  have ht : treeIs x.2.1 x.2.2 l[fidx l x] = true := List.findIdx_getElem (w := hlt)
  have hno : ∀ j, j < fidx l x → ∀ z, l[j]? = some z → treeIs x.2.1 x.2.2 z = false := by
    intro j hj z hz
    have h1 := List.not_of_lt_findIdx hj
    have hjl : j < l.length := by omega
    rw [List.getElem?_eq_getElem hjl] at hz
    cases hz
    simpa using h1
  refine ⟨?_, _, hy, of_decide_eq_true ht, ?_, fun j hj z hz e => ?_⟩
  · rcases Nat.lt_or_ge i (fidx l x) with h1 | h1
    · have := hno i h1 x h
      rw [treeIs_self] at this; cases this
    · exact h1
  · unfold fstOf fstK
    rw [find_at hno hy ht]; rfl
  · have := hno j hj z hz
    exact of_decide_eq_false this e

/-- the known choices of some nodes -/
def knOf (ns : List Nd) (qs : List Addr) (vn : List Nat) : List Kn := vn.map fun v => (qs.getD v ⟨0, 0, none⟩, tr ns v)
theorem knOf_len (ns : List Nd) (qs : List Addr) (vn : List Nat) : (knOf ns qs vn).length = vn.length := by simp [knOf]
theorem knOf_at {ns : List Nd} {qs : List Addr} {vn : List Nat} {j v : Nat} (h : vn[j]? = some v) : (knOf ns qs vn)[j]? = some (qs.getD v ⟨0, 0, none⟩, tr ns v) := by simp [knOf, h]

theorem eqlP_same (w : World) (a : Addr) : (binOp .eql 72 (.pointer (some a)) (.pointer (some a))).run Try.prog w = .ok (.bool true) w := by
  have h2 := size97
  cases e2 : Try.prog.info? 97 with
  | none => rw [e2] at h2; cases h2
  | some j => exact run_eql_ptr_same w a Try.underlying72 e2
theorem eqlP_other (w : World) {a b : Addr} {ca cb : Array Value} (hne : a ≠ b) (ha : w.heap[a.block]? = some (.cells ca 97 (0, 0))) (hb : w.heap[b.block]? = some (.cells cb 97 (0, 0))) :
    (binOp .eql 72 (.pointer (some a)) (.pointer (some b))).run Try.prog w = .ok (.bool false) w := by
  have h2 := size97
  cases e2 : Try.prog.info? 97 with
  | none => rw [e2] at h2; cases h2
  | some j => exact run_eql_ptr_other w Try.underlying72 e2 (by rw [e2] at h2; simp at h2; omega) hne ha hb

/-- What the loop over the numbers has gathered. -/
def Gath (w1 wr : World) (g : Nat) (l : List Kn) (j : Nat) : Prop := ∃ A c, wr.heap[g]? = some (.cells #[.slice A j c] 73 (0, 0)) ∧ wr.ownsRow w1.heap.size 72 1 (.slice A j c) j (ptrs (adr (l.take j))) ∧ Below w1.heap.size w1 wr
/-- out behind j rounds -/
def outJ (l : List Kn) (j : Nat) : List Int := ((l.take j).map fun x => (fidx l x : Int)) ++ List.replicate (l.length - j) 0
theorem outJ_len (l : List Kn) {j : Nat} (h : j ≤ l.length) : (outJ l j).length = l.length := by simp [outJ]; omega
theorem outJ_set {l : List Kn} {j : Nat} {x : Kn} (h : l[j]? = some x) : (outJ l j).set j (fidx l x : Int) = outJ l (j + 1) := by
  have hlt : j < l.length := (List.getElem?_eq_some_iff.1 h).1
  unfold outJ
  have hlen : ((l.take j).map fun x => (fidx l x : Int)).length = j := by simp; omega
  rw [List.set_append_right _ _ (by omega), hlen, Nat.sub_self, take_snoc' _ _ _ h, List.map_append, List.append_assoc]
  congr 1
  rw [show l.length - j = (l.length - (j + 1)) + 1 by omega, List.replicate_succ]
  rfl
theorem ints_set (vs : List Int) (j : Nat) (v : Int) : (ints vs).set j (.int .i64 v) = ints (vs.set j v) := by simp [ints, List.map_set]
theorem madeInts (n : Nat) : (madeCells (Value.int .i64 0).cells (n * 1)).toList = ints (List.replicate n 0) := by
  rw [show (Value.int .i64 0).cells = #[Value.int .i64 0] from rfl, toList_madeCells_one]
  simp [ints]
end Go.Proofs.Ytcbabfndfikejaa
