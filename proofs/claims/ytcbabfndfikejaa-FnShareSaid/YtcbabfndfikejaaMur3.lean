/- The law on the hash of numbers: the package's hash is the reference's, whatever the numbers. Condition: the length is an int. -/
import Derived.Test.YtcbabfndfikejaaMur2
namespace Go.Proofs.Ytcbabfndfikejaa
open Go.RowKit

theorem murH_mod (h k : Int) : murH h k % 4294967296 = murH h k := by
  unfold murH; exact Int.emod_emod_of_dvd _ (Int.dvd_refl _)
theorem murL_mod (h : Int) (l : List Int) : murL h l % 4294967296 = murA (h % 4294967296) l := by
  induction l generalizing h with
  | nil => rfl
  | cons v r ih => simp only [murL, murA, ih, murU, murH_mod]
theorem mur_same (h n : Int) (l : List Int) : murF (murL h l) n = murS (murA (h % 4294967296) l) n := by
  unfold murF murS; rw [murL_mod]

theorem int_info : (Try.prog.info? 3).map (fun i => (i.zero, i.size, i.bytes)) = some (some (.int .i64 0), 1, 8) := by kernel_rfl
theorem ints_one (vs : List Int) : ∀ u ∈ ints vs, u.oneCell' = true := by
  intro u hu
  simp only [ints, List.mem_map] at hu
  obtain ⟨v, _, rfl⟩ := hu
  rfl

theorem own_slice {w : World} {base : Nat} {e : TypeId} {size n : Nat} {v : Value} {xs : List Value} (h : w.ownsRow base e size v n xs) : ∃ A c, v = .slice A n c ∧ Reads w w.heap.size size A n xs := by
  have h' := h
  rcases h.2 with ⟨rfl, rfl⟩ | ⟨g, cap, cur, rfl, _⟩
  · exact ⟨none, 0, rfl, Reads.of_own h'⟩
  · exact ⟨_, _, rfl, Reads.of_own h'⟩

def BelPost (v : Value) (w : World) (e : Ending) (w' : World) : Prop := e = .returned v ∧ Below w.heap.size w w'

set_option maxHeartbeats 400000 in
theorem implMurmur_any (seed : Int) (A : Option Addr) (c : Nat) (vs : List Int) (n : Int) (w : World) (hr : Reads w w.heap.size 1 A vs.length (ints vs)) (hm : vs.length ≤ 65536) :
    Calls Try.prog 14 #[.int .i64 seed, .slice A vs.length c, .int .i64 n] w (BelPost (.int .i64 (murF (murL seed vs) n)) w) := by
  obtain ⟨i0, hi0, hz0, hz1, hz2⟩ := info_parts int_info
  go_enter Try.func14, Try.ntmps14
  go_wp2_with (first
    | (at_builtin
       refine wpList_append_any _ rfl (.tmp 8) (.tmp 9) _ rfl w.heap.size 3 i0 _ 1 8 Try.underlying22 hi0 hz0 hz1 hz2 rfl (by omega) (.slice (some ⟨w.heap.size, 0, none⟩) 0 0) 0 [] rfl
         (World.ownsRow_made w #[] 0 (Nat.le_refl _) (by simp [maxLen]) rfl) w.heap.size A vs.length c (ints vs) rfl (hr.alloc (Nat.le_refl _) _) (ints_one vs) (by simp only [maxLen]; omega) (by omega) (by simp) ?_
       intro v1 w1 hown1 hg1 hat1
       have hbw1 : Below w.heap.size w w1 := ((Below.refl _ _).alloc (Nat.le_refl _) _).grown hg1 (by simp) (by simp [Value.ownBlock])))
  rw [Nat.zero_add, List.nil_append] at hown1
  obtain ⟨A1, c1, rfl, hr1⟩ := own_slice hown1
  go_wp2_with (go_at_call 34; refine (ZZMurmur_any _ _ _ vs _ _ _ hr1 (by omega)).mono ?_; rintro e w' ⟨rfl, rfl⟩)
  go_ret
  exact ⟨rfl, hbw1⟩

set_option maxHeartbeats 400000 in
theorem FnMurmur_any (seed : Int) (A : Option Addr) (c : Nat) (vs : List Int) (n : Int) (w : World) (hr : Reads w w.heap.size 1 A vs.length (ints vs)) (hm : vs.length ≤ 9223372036854775807) :
    Calls Try.prog 3 #[.int .i64 seed, .slice A vs.length c, .int .i64 n] w (BelPost (.bool true) w) := by
  by_cases h1 : 16 < vs.length
  · go_enter Try.func3, Try.ntmps3
    go_wp2_with fail
    all_goals (go_ret; exact ⟨rfl, Below.refl _ _⟩)
  · go_enter Try.func3, Try.ntmps3
    go_wp2_with fail
    refine (implMurmur_any seed A c vs n w hr (by omega)).mono ?_
    rintro e w1 ⟨rfl, hb1⟩
    go_wp2_with fail
    refine (specMurmur_any seed A c vs n w.heap.size w1 (hr.below hb1) (by omega)).mono ?_
    rintro e w2 ⟨rfl, rfl⟩
    rw [mur_same]
    go_wp2_with fail
    go_ret
    refine ⟨?_, hb1⟩
    simp
end Go.Proofs.Ytcbabfndfikejaa
