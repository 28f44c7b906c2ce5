/- The walk of spec.Good: if it says yes, the table is as the documentation of a table says. Condition: at most 2147483647 nodes. -/
import Derived.Test.YtcbabfndfikejaaTab
import Derived.BigGuardPart
namespace Go.Proofs.Ytcbabfndfikejaa
open Go.RowKit

def TopOk (i : Nat) (nd : Nd) (k : Nat) : Prop := ∃ s p : Int, nd.ss[k]? = some s ∧ nd.ps[k]? = some p ∧ 0 ≤ s ∧ s ≤ 1000 ∧ 0 ≤ p ∧ p < i ∧ (0 < k → ∃ s', nd.ss[k - 1]? = some s' ∧ s' < s)
def NdOk (i : Nat) (nd : Nd) : Prop := nd.ps.length = nd.ss.length ∧ nd.ss.length ≤ 4 ∧ ∀ k, k < nd.ss.length → TopOk i nd k
def NdsOk (ns : List Nd) (k : Nat) : Prop := ∀ i nd, i < k → ns[i]? = some nd → NdOk i nd
def GoodT (ns : List Nd) : Prop := ns.length ≤ 10 ∧ NdsOk ns ns.length
theorem NdsOk.succ {ns : List Nd} {k : Nat} {nd : Nd} (h : NdsOk ns k) (hk : ns[k]? = some nd) (hn : NdOk k nd) : NdsOk ns (k + 1) := by
  intro i nd' hi hi'
  rcases Nat.lt_or_ge i k with h1 | h1
  · exact h i nd' h1 hi'
  · have : i = k := by omega
    subst this
    rw [hk] at hi'; cases hi'; exact hn

set_option maxHeartbeats 2000000 in
theorem specGood_any (A : Option Addr) (c : Nat) (ns : List Nd) (w : World) (ht : Tbl w w.heap.size A ns) (hm : ns.length ≤ 2147483647) :
    Calls Try.prog 18 #[.slice A ns.length c] w (YesPost (GoodT ns) w) := by
  go_enter Try.func18, Try.ntmps18
  go_wp2_with fail
  go_loopw [9] (fun i wr => ∃ k : Nat, k ≤ ns.length ∧ i = .int .i64 k ∧ Below w.heap.size w wr ∧ Hid (NdsOk ns k)) (fun i _ => ns.length - (intOf i).toNat)
  case atStart => exact ⟨0, Nat.zero_le _, rfl, Below.refl _ _, fun i _ hi => absurd hi (by omega)⟩
  case round =>
    obtain ⟨k, hk, rfl, hb, HO⟩ := hrel
    by_cases hlt : k < ns.length
    · have hkn := List.getElem?_eq_getElem hlt
      obtain ⟨b, off, Ap, cp, As, cs, rfl, hbb, cu, cv, rp, rs⟩ := (ht.below hb).at_ hkn
      generalize ns[k] = nd at *
      have HK := Lib.hid hkn
      clear ht hkn
      by_cases hpl : nd.ps.length = nd.ss.length
      · by_cases h4 : nd.ss.length ≤ 4
        · rw [hpl] at cu rp
          have HP := Lib.hid hpl
          clear hpl
          have hbs := hb.size
          go_wp2_with fail
          go_loop [30] (fun i => ∃ m : Nat, m ≤ nd.ss.length ∧ i = .int .i64 m ∧ Hid (∀ j, j < m → TopOk k nd j)) (fun i => nd.ss.length - (intOf i).toNat)
          case atStart => exact ⟨0, Nat.zero_le _, rfl, fun j hj => absurd hj (by omega)⟩
          case round =>
            obtain ⟨m, hmm, rfl, HM⟩ := hrel
            by_cases hml : m < nd.ss.length
            · obtain ⟨b1, off1, u1, rfl, hb1, hu1, hc1⟩ := rs.at1 hml
              obtain ⟨s, hs, rfl⟩ := ints_at hu1
              obtain ⟨b2, off2, u2, rfl, hb2, hu2, hc2⟩ := rp.at1 hml
              obtain ⟨p, hp, rfl⟩ := ints_at hu2
              have HS := Lib.hid hs
              have HPP := Lib.hid hp
              have hl1 : b1 < wr.heap.size := by omega
              have hl2 : b2 < wr.heap.size := by omega
              obtain ⟨s', hs'⟩ : ∃ s' : Int, 0 < m → nd.ss[m - 1]? = some s' ∧ wr.cell? ⟨b1, off1 + (m - 1), none⟩ = some (.int .i64 s') := by
                by_cases h0 : 0 < m
                · obtain ⟨b3, off3, u3, e3, _, hu3, hc3⟩ := rs.at1 (k := m - 1) (by omega)
                  cases e3
                  obtain ⟨s', hs', rfl⟩ := ints_at hu3
                  exact ⟨s', fun _ => ⟨hs', hc3⟩⟩
                · exact ⟨0, fun h => absurd h h0⟩
              have HS' := Lib.hid (fun h0 => (hs' h0).1)
              have hc3 := fun h0 => (hs' h0).2
              have hb2' := hb.alloc hb.size (Obj.cells #[Value.slice (some { block := b2, off := off2 }) nd.ss.length cp, Value.slice (some { block := b1, off := off1 }) nd.ss.length cs] 32)
              clear hs hp hu1 hu2 hs' hb rs rp HK HO HP
              go_wp2_with fail
              all_goals first
                | (go_ret; exact ⟨_, rfl, fun h => by simp at h, hb2'⟩)
                | (go_round
                   case rel =>
                     refine ⟨m + 1, by omega, by go_num, fun j hj => ?_⟩
                     by_cases hj' : j < m
                     · exact HM.out j hj'
                     · obtain rfl : j = m := by omega
                       exact ⟨s, p, HS.out, HPP.out, by omega, by omega, by omega, by omega, fun h0 => ⟨s', HS'.out h0, by omega⟩⟩
                   case measure => simp [intOf]; omega)
            · have hme : m = nd.ss.length := by omega
              have HM2 := Lib.hid (NdsOk.succ HO.out HK.out ⟨HP.out, h4, by rw [← hme]; exact HM.out⟩)
              have hb1 := hb.alloc hb.size (Obj.cells #[Value.slice Ap nd.ss.length cp, Value.slice As nd.ss.length cs] 32)
              clear hme HM HK HP HO hb rp rs
              go_wp2_with fail
              go_roundw
              case rel => exact ⟨k + 1, by omega, by go_num, hb1, HM2⟩
              case measure => simp [intOf]; omega
        · go_wp2_with fail
          go_ret
          exact ⟨_, rfl, fun h => by simp at h, hb.alloc hb.size _⟩
      · have hne : ¬ ((nd.ps.length : Int) = (nd.ss.length : Int)) := by omega
        go_wp2_with fail
        go_ret
        exact ⟨_, rfl, fun h => by simp at h, hb.alloc hb.size _⟩
    · go_wp2_with fail
      go_ret
      have : k = ns.length := by omega
      subst this
      exact ⟨_, rfl, fun h => ⟨by simp at h; omega, HO.out⟩, hb⟩
end Go.Proofs.Ytcbabfndfikejaa
