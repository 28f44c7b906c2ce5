/- The walk of laws.nodes: the reference table has the nodes of the given one. Condition: at most 2147483647 nodes. -/
import Derived.Test.YtcbabfndfikejaaTab
import Derived.Deep.DeepMust
namespace Go.Proofs.Ytcbabfndfikejaa
open Go.RowKit

theorem spec_info : (Try.prog.info? 32).map (fun i => (i.zero, i.size, i.bytes)) = some (some (.agg #[.slice none 0 0, .slice none 0 0]), 2, 48) := by kernel_rfl
def OwnPost (e : TypeId) (size n : Nat) (xs : List Value) (w : World) (en : Ending) (w' : World) : Prop := ∃ v, en = .returned v ∧ w'.ownsRow w.heap.size e size v n xs ∧ Below w.heap.size w w'
def Slices (xs : List Value) : Prop := ∀ (j : Nat) (u : Value), xs[j]? = some u → ∃ (A : Option Addr) (n c : Nat), u = Value.slice A n c

theorem take2 {xs : List Value} {k : Nat} {u v : Value} (hu : xs[k * 2]? = some u) (hv : xs[k * 2 + 1]? = some v) : xs.take ((k + 1) * 2) = xs.take (k * 2) ++ [u, v] := by
  rw [show (k + 1) * 2 = k * 2 + 1 + 1 by omega, take_snoc' _ _ _ hv, take_snoc' _ _ _ hu]
  simp

set_option maxHeartbeats 800000 in
theorem lawsNodes_any (A : Option Addr) (c n : Nat) (xs : List Value) (w : World) (hr : Reads w w.heap.size 2 A n xs) (hs : Slices xs) (hm : n ≤ 2147483647) :
    Calls Try.prog 17 #[.slice A n c] w (OwnPost 32 2 n xs w) := by
  obtain ⟨i0, hi0, hz0, hz1, hz2⟩ := info_parts spec_info
  go_enter Try.func17, Try.ntmps17
  go_wp2_with fail
  go_loopw [3, 9] (fun o i wr => ∃ k : Nat, k ≤ n ∧ i = .int .i64 k ∧ wr.ownsRow w.heap.size 32 2 o k (xs.take (k * 2)) ∧ Below w.heap.size w wr) (fun _ i _ => n - (intOf i).toNat)
  case atStart => exact ⟨0, Nat.zero_le _, rfl, World.ownsRow_made w #[] 0 (Nat.le_refl _) (by simp [maxLen]) rfl, (Below.refl _ _).alloc (Nat.le_refl _) _⟩
  case round =>
    obtain ⟨k, hk, rfl, hown, hb⟩ := hrel
    by_cases hlt : k < n
    · obtain ⟨b, off, u, v, rfl, hbb, hu, hv, cu, cv⟩ := (hr.below hb).at2 hlt
      obtain ⟨A1, n1, c1, rfl⟩ := hs _ _ hu
      obtain ⟨A2, n2, c2, rfl⟩ := hs _ _ hv
      have HT := Lib.hid (take2 hu hv)
      clear hu hv hr
      go_wp2_with (first
        | (at_builtin
           go_must (refine wpList_append_bel rfl (.tmp 13) (.tmp 19) _ rfl w w.heap.size 32 i0 _ 2 48 Try.underlying27 hi0 hz0 hz1 hz2 rfl (by omega) _ k (xs.take (k * 2)) rfl ((hown.alloc _).alloc _) _ _ 1 1 _ rfl (reads_new (by simp) rfl) (by simp [Value.oneCell']) (by omega) (by omega) (below_alloc2 hb hb.size _ _) (by simp; have := hb.size; omega) ?_)
           intro v1 w1 hown1 hb1 _ _))
      have hown2 : w1.ownsRow w.heap.size 32 2 v1 (k + 1) (xs.take ((k + 1) * 2)) := by rw [HT.out]; exact hown1
      clear hown1 hown hb cu cv
      go_wp2_with fail
      go_roundw
      case rel => exact ⟨k + 1, by omega, by go_num, hown2, hb1⟩
      case measure => simp [intOf]; omega
    · go_wp2_with fail
      go_ret
      have hkn : k = n := by omega
      subst hkn
      rw [List.take_of_length_le (by have := hr.1; omega)] at hown
      exact ⟨_, rfl, hown, hb⟩
end Go.Proofs.Ytcbabfndfikejaa
