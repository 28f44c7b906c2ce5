/- In one: The bound for sets of a table: each table fits a leaf of the check. Plain Lean, no program in sight. The law FnMergeAll: its walk, with the bound. No condition. -/
import Derived.Test.YtcbabfndfikejaaZ23
import Derived.Test.YtcbabfndfikejaaZ24
import Derived.Test.YtcbabfndfikejaaZ25
import Derived.Test.YtcbabfndfikejaaZ26
import Derived.Test.YtcbabfndfikejaaZ27
import Derived.Test.YtcbabfndfikejaaZ28
import Derived.Test.YtcbabfndfikejaaZ29
import Derived.Test.YtcbabfndfikejaaZ30
import Derived.Test.YtcbabfndfikejaaZ21
namespace Go.Proofs.Ytcbabfndfikejaa
def lv0 : List Par := cr0 ++ cr1 ++ cr2 ++ cr3 ++ cr4 ++ cr5 ++ cr6 ++ cr7 ++ cr8 ++ cr9 ++ cr10 ++ cr11 ++ cr12
def cv0 : Cov := (.d 1 1 (.d 5 1 (.d 4 1 (.d 7 1 (.lf 2) (.d 3 1 (.d 2 1 (.d 6 3 (.lf 4) (.lf 10)) (.d 6 1 (.lf 69) (.d 2 3 (.d 8 1 (.d 6 3 (.lf 61) (.lf 48)) (.lf 28)) (.lf 54)))) (.d 6 1 (.d 2 1 (.d 8 1 (.lf 1) (.lf 38)) (.lf 63)) (.d 2 1 (.d 8 1 (.lf 39) (.lf 36)) (.lf 52))))) (.d 6 1 (.d 3 1 (.d 2 1 (.lf 8) (.d 7 1 (.lf 0) (.lf 49))) (.lf 66)) (.d 3 1 (.d 2 1 (.d 7 1 (.lf 43) (.d 8 1 (.lf 42) (.lf 34))) (.lf 50)) (.lf 37)))) (.d 2 1 (.d 4 1 (.d 3 1 (.d 6 1 (.lf 46) (.d 5 2 (.d 6 2 (.lf 65) (.d 7 1 (.lf 9) (.d 8 1 (.lf 45) (.lf 33)))) (.lf 47))) (.d 7 1 (.lf 40) (.d 6 1 (.lf 41) (.lf 35)))) (.lf 44)) (.d 3 1 (.d 6 1 (.d 8 1 (.lf 64) (.d 4 1 (.d 7 1 (.lf 7) (.lf 29)) (.lf 51))) (.d 7 1 (.d 4 1 (.d 8 1 (.lf 21) (.lf 30)) (.lf 31)) (.lf 20))) (.lf 53)))) (.d 6 1 (.d 2 1 (.d 7 1 (.lf 11) (.d 4 1 (.d 5 1 (.lf 60) (.d 3 1 (.d 8 1 (.lf 12) (.lf 24)) (.lf 6))) (.d 5 1 (.d 3 1 (.lf 57) (.lf 23)) (.lf 18)))) (.lf 15)) (.d 5 1 (.d 7 1 (.lf 5) (.d 2 1 (.d 3 1 (.d 4 1 (.d 8 1 (.lf 14) (.lf 13)) (.lf 22)) (.lf 55)) (.lf 27))) (.d 2 1 (.d 3 1 (.d 7 1 (.d 4 1 (.d 8 1 (.lf 62) (.lf 25)) (.lf 19)) (.lf 26)) (.lf 56)) (.lf 58)))))
theorem lv0_ok : ∀ p ∈ lv0, ∃ menu, p.ok 0 menu = true := app_ok (app_ok (app_ok (app_ok (app_ok (app_ok (app_ok (app_ok (app_ok (app_ok (app_ok (app_ok (cr0_ok) cr1_ok) cr2_ok) cr3_ok) cr4_ok) cr5_ok) cr6_ok) cr7_ok) cr8_ok) cr9_ok) cr10_ok) cr11_ok) cr12_ok
theorem cv0_ok : cv0.all 0 lv0 = true := by decide +kernel
def lv1 : List Par := cr13 ++ cr14 ++ cr15
def cv1 : Cov := (.d 2 1 (.d 5 1 (.d 6 1 (.lf 0) (.d 4 1 (.d 3 1 (.lf 15) (.d 7 1 (.lf 13) (.lf 11))) (.d 3 1 (.lf 10) (.lf 7)))) (.d 4 1 (.d 3 1 (.lf 14) (.lf 8)) (.lf 9))) (.d 3 1 (.d 7 1 (.lf 4) (.d 4 1 (.d 6 1 (.lf 1) (.d 5 1 (.d 8 1 (.lf 6) (.lf 5)) (.lf 12))) (.lf 2))) (.lf 3)))
theorem lv1_ok : ∀ p ∈ lv1, ∃ menu, p.ok 1 menu = true := app_ok (app_ok (cr13_ok) cr14_ok) cr15_ok
theorem cv1_ok : cv1.all 1 lv1 = true := by decide +kernel
def lv2 : List Par := cr16
def cv2 : Cov := (.d 3 1 (.d 4 1 (.lf 0) (.lf 1)) (.lf 2))
theorem lv2_ok : ∀ p ∈ lv2, ∃ menu, p.ok 2 menu = true := cr16_ok
theorem cv2_ok : cv2.all 2 lv2 = true := by decide +kernel
def lv3 : List Par := cr17 ++ cr18 ++ cr19 ++ cr20 ++ cr21
def cv3 : Cov := (.d 4 1 (.d 5 1 (.d 6 3 (.d 6 2 (.lf 0) (.lf 6)) (.lf 4)) (.lf 2)) (.lf 3))
theorem lv3_ok : ∀ p ∈ lv3, ∃ menu, p.ok 3 menu = true := app_ok (app_ok (app_ok (app_ok (cr17_ok) cr18_ok) cr19_ok) cr20_ok) cr21_ok
theorem cv3_ok : cv3.all 3 lv3 = true := by decide +kernel
def lv4 : List Par := cr22 ++ cr23 ++ cr24 ++ cr25 ++ cr26 ++ cr27 ++ cr28 ++ cr29 ++ cr30 ++ cr31 ++ cr32 ++ cr33 ++ cr34
def cv4 : Cov := (.d 5 1 (.t 6 1 (.lf 27) (.d 4 3 (.d 6 2 (.lf 0) (.d 6 3 (.lf 2) (.lf 19))) (.lf 14))) (.d 5 3 (.d 6 1 (.lf 3) (.d 5 2 (.t 6 1 (.lf 27) (.d 4 3 (.d 6 3 (.t 5 0 (.lf 7) (.d 4 2 (.d 6 2 (.lf 25) (.t 5 1 (.t 6 2 (.lf 26) (.lf 5)) (.lf 32))) (.lf 10))) (.t 5 0 (.lf 15) (.d 4 2 (.t 6 2 (.lf 31) (.t 5 1 (.t 6 3 (.lf 30) (.lf 6)) (.lf 35))) (.lf 10)))) (.lf 24))) (.d 4 2 (.d 6 2 (.t 5 1 (.lf 1) (.t 6 0 (.lf 9) (.lf 34))) (.t 5 1 (.lf 21) (.t 6 1 (.d 6 3 (.lf 29) (.lf 38)) (.lf 22)))) (.lf 13)))) (.d 4 2 (.d 6 1 (.lf 20) (.d 6 2 (.lf 12) (.t 6 1 (.d 6 3 (.lf 33) (.lf 17)) (.lf 23)))) (.lf 13))))
theorem lv4_ok : ∀ p ∈ lv4, ∃ menu, p.ok 4 menu = true := app_ok (app_ok (app_ok (app_ok (app_ok (app_ok (app_ok (app_ok (app_ok (app_ok (app_ok (app_ok (cr22_ok) cr23_ok) cr24_ok) cr25_ok) cr26_ok) cr27_ok) cr28_ok) cr29_ok) cr30_ok) cr31_ok) cr32_ok) cr33_ok) cr34_ok
theorem cv4_ok : cv4.all 4 lv4 = true := by decide +kernel
def lv5 : List Par := cr35 ++ cr36 ++ cr37 ++ cr38 ++ cr39 ++ cr40 ++ cr41
def cv5 : Cov := (.d 6 2 (.lf 1) (.t 6 1 (.lf 5) (.d 5 3 (.d 5 2 (.d 6 3 (.lf 4) (.t 6 2 (.lf 0) (.lf 6))) (.t 6 2 (.d 6 3 (.lf 8) (.lf 7)) (.lf 2))) (.lf 3))))
theorem lv5_ok : ∀ p ∈ lv5, ∃ menu, p.ok 5 menu = true := app_ok (app_ok (app_ok (app_ok (app_ok (app_ok (cr35_ok) cr36_ok) cr37_ok) cr38_ok) cr39_ok) cr40_ok) cr41_ok
theorem cv5_ok : cv5.all 5 lv5 = true := by decide +kernel
def lv6 : List Par := cr42
def cv6 : Cov := .lf 0
theorem lv6_ok : ∀ p ∈ lv6, ∃ menu, p.ok 6 menu = true := cr42_ok
theorem cv6_ok : cv6.all 6 lv6 = true := by decide +kernel
def lv7 : List Par := cr43
def cv7 : Cov := .lf 0
theorem lv7_ok : ∀ p ∈ lv7, ∃ menu, p.ok 7 menu = true := cr43_ok
theorem cv7_ok : cv7.all 7 lv7 = true := by decide +kernel
def lv8 : List Par := cr44
def cv8 : Cov := .lf 0
theorem lv8_ok : ∀ p ∈ lv8, ∃ menu, p.ok 8 menu = true := cr44_ok
theorem cv8_ok : cv8.all 8 lv8 = true := by decide +kernel
/-- THE BOUND FOR SETS OF A TABLE -/
theorem boundS : BoundS := fun X u h w r hr0 hth hR S hS h0 hgs => by
  by_cases hN : (X.map nodes).sum ≤ 190
  · exact few_nodes h hr0 hN hS h0
  · have hu9 : u ≤ 9 := Nat.le_trans h.hu h.len
    rcases (show u = 0 ∨ u = 1 ∨ u = 2 ∨ u = 3 ∨ u = 4 ∨ u = 5 ∨ u = 6 ∨ u = 7 ∨ u = 8 ∨ u = 9 by omega) with rfl | rfl | rfl | rfl | rfl | rfl | rfl | rfl | rfl | rfl
    · exact cov_bound h hr0 hth hR hN lv0_ok cv0_ok S hS h0 hgs
    · exact cov_bound h hr0 hth hR hN lv1_ok cv1_ok S hS h0 hgs
    · exact cov_bound h hr0 hth hR hN lv2_ok cv2_ok S hS h0 hgs
    · exact cov_bound h hr0 hth hR hN lv3_ok cv3_ok S hS h0 hgs
    · exact cov_bound h hr0 hth hR hN lv4_ok cv4_ok S hS h0 hgs
    · exact cov_bound h hr0 hth hR hN lv5_ok cv5_ok S hS h0 hgs
    · exact cov_bound h hr0 hth hR hN lv6_ok cv6_ok S hS h0 hgs
    · exact cov_bound h hr0 hth hR hN lv7_ok cv7_ok S hS h0 hgs
    · exact cov_bound h hr0 hth hR hN lv8_ok cv8_ok S hS h0 hgs
    · exact bound_nine h hr0 hth S hS
end Go.Proofs.Ytcbabfndfikejaa
namespace Go.Proofs.Ytcbabfndfikejaa
open Go.RowKit
theorem boundA : BoundA := fun ns vn wild hg hin h0 _ hq h120 r _ hr2 => bound_run boundS ns vn wild hg hin h0 hq h120 r hr2
theorem lawMergeAll_full (A : Option Addr) (c : Nat) (ns : List Nd) (A' : Option Addr) (c' : Nat) (vs : List Int) (wild cached : Bool) (w : World) (ht : Tbl w w.heap.size A ns) (hm : ns.length ≤ 9223372036854775807) (hv : Reads w w.heap.size 1 A' vs.length (ints vs)) (hmv : vs.length ≤ 9223372036854775807) :
    Calls Try.prog 13 #[.slice A ns.length c, .slice A' vs.length c', .bool wild, .bool cached] w (Yes w) := lawMergeAll_any boundA A c ns A' c' vs wild cached w ht hm hv hmv
end Go.Proofs.Ytcbabfndfikejaa
