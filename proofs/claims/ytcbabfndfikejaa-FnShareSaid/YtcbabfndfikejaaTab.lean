/- The walks over the given table: that it fits, that it is good, and its copies. No condition but that the table reads. -/
import Derived.Test.YtcbabfndfikejaaLib2
import Derived.BigQuiet
import Derived.Deep.QuietTactic
import Derived.Deep.Light
import Derived.Deep.DeepFit
namespace Go.Proofs.Ytcbabfndfikejaa
open Go.RowKit

/-- What a test promises: if it says yes, then p; and nothing that was there has turned. -/
def YesPost (p : Prop) (w : World) (e : Ending) (w' : World) : Prop := ∃ r : Bool, e = .returned (.bool r) ∧ (r = true → p) ∧ Below w.heap.size w w'

theorem below_alloc2 {B : Nat} {a w : World} (h : Below B a w) (hB : B ≤ w.heap.size) (o o' : Obj) : Below B a ((w.alloc o).alloc o') := (h.alloc hB o).alloc (by simp; omega) o'

theorem zzFits2_any (Ap As : Option Addr) (np cp ns cs : Nat) (w : World) :
    Calls Try.prog 35 #[.agg #[.slice Ap np cp, .slice As ns cs]] w (YesPost True w) := by
  go_enter Try.func35, Try.ntmps35
  go_wp2
  all_goals (go_ret; exact ⟨_, rfl, fun _ => trivial, (Below.refl _ _).alloc (Nat.le_refl _) _⟩)

set_option maxHeartbeats 800000 in
theorem zzFits1_any (A : Option Addr) (c : Nat) (ns : List Nd) (w : World) (ht : Tbl w w.heap.size A ns) (hm : ns.length ≤ 9223372036854775807) :
    Calls Try.prog 16 #[.slice A ns.length c] w (YesPost (ns.length ≤ 2147483647) w) := by
  by_cases hn : 2147483647 < ns.length
  · go_enter Try.func16, Try.ntmps16
    go_wp2
    go_ret
    exact ⟨_, rfl, fun h => by simp at h, Below.refl _ _⟩
  · go_enter Try.func16, Try.ntmps16
    go_wp2_with fail
    go_loopw [10] (fun i wr => ∃ k : Nat, k ≤ ns.length ∧ i = .int .i64 k ∧ Below w.heap.size w wr) (fun i _ => ns.length - (intOf i).toNat)
    case atStart => exact ⟨0, Nat.zero_le _, rfl, Below.refl _ _⟩
    case round =>
      obtain ⟨k, hk, rfl, hb⟩ := hrel
      by_cases hlt : k < ns.length
      · obtain ⟨b, off, Ap, cp, As, cs, rfl, _, cu, cv, _, _⟩ := (ht.below hb).at_ (List.getElem?_eq_getElem hlt)
        clear ht
        generalize (ns[k]).ps.length = np at *
        generalize (ns[k]).ss.length = nq at *
        go_wp2_with fail
        refine (zzFits2_any _ _ _ _ _ _ _).mono ?_
        rintro e w' ⟨r, rfl, _, hb2⟩
        have hb3 := (hb.alloc hb.size _).trans (hb2.mono (by simp; have := hb.size; omega))
        clear hb2 hb cu cv
        cases r
        · go_wp2_with fail
          go_ret
          exact ⟨_, rfl, fun h => by simp at h, hb3⟩
        · go_wp2_with fail
          go_roundw
          case rel => exact ⟨k + 1, by omega, by go_num, hb3⟩
          case measure => simp [intOf]; omega
      · go_wp2_with fail
        go_ret
        exact ⟨_, rfl, fun _ => by omega, hb⟩
end Go.Proofs.Ytcbabfndfikejaa
