/- The walks of the hash of a list of numbers, in the package and in the reference. Condition: the length is an int. -/
import Derived.Test.YtcbabfndfikejaaMur
import Derived.Deep.Light
namespace Go.Proofs.Ytcbabfndfikejaa
open Go.RowKit

def ints (vs : List Int) : List Value := vs.map (Value.int .i64)
def murL : Int → List Int → Int
  | h, [] => h
  | h, v :: r => murL (murU h v) r
def murA : Int → List Int → Int
  | h, [] => h
  | h, v :: r => murA (murH h (murK v)) r
theorem murL_snoc (h : Int) (l : List Int) (v : Int) : murL h (l ++ [v]) = murU (murL h l) v := by
  induction l generalizing h with
  | nil => rfl
  | cons a l ih => exact ih _
theorem murA_snoc (h : Int) (l : List Int) (v : Int) : murA h (l ++ [v]) = murH (murA h l) (murK v) := by
  induction l generalizing h with
  | nil => rfl
  | cons a l ih => exact ih _
theorem take_snoc' {α : Type} (l : List α) (k : Nat) (u : α) (h : l[k]? = some u) : l.take (k + 1) = l.take k ++ [u] := by
  rw [List.take_add_one, h]; rfl
theorem ints_at {vs : List Int} {k : Nat} {u : Value} (h : (ints vs)[k]? = some u) : ∃ v, vs[k]? = some v ∧ u = .int .i64 v := by
  simp only [ints, List.getElem?_map, Option.map_eq_some_iff] at h
  obtain ⟨v, h1, h2⟩ := h
  exact ⟨v, h1, h2.symm⟩
theorem ints_length (vs : List Int) : (ints vs).length = vs.length := by simp [ints]

def MurPost (r : Int) (w : World) (e : Ending) (w' : World) : Prop := e = .returned (.int .i64 r) ∧ w = w'

set_option maxHeartbeats 400000 in
theorem ZZMurmur_any (seed : Int) (A : Option Addr) (c : Nat) (vs : List Int) (n : Int) (B : Nat) (w : World) (hr : Reads w B 1 A vs.length (ints vs)) (hm : vs.length ≤ 9223372036854775807) :
    Calls Try.prog 34 #[.int .i64 seed, .slice A vs.length c, .int .i64 n] w (MurPost (murF (murL seed vs) n) w) := by
  go_enter Try.func34, Try.ntmps34
  go_wp2_with (go_at_call 47; refine (murmurInit_any _ _).mono ?_; rintro e w' ⟨rfl, rfl⟩)
  go_loop [7, 14] (fun h i => ∃ k : Nat, k ≤ vs.length ∧ i = .int .i64 k ∧ h = .int .i64 (murL seed (vs.take k))) (fun _ i => vs.length - (intOf i).toNat)
  case atStart => exact ⟨0, Nat.zero_le _, rfl, rfl⟩
  case round =>
    obtain ⟨k, hk, rfl, rfl⟩ := hrel
    by_cases hlt : k < vs.length
    · obtain ⟨ad, u, rfl, _, hx, hc⟩ := hr.at_ hlt
      obtain ⟨v, hv, rfl⟩ := ints_at hx
      have HV := Lib.hid hv
      clear hv hx hr
      go_wp2_with (go_at_call 48; refine (murmurUpdate_any _ _ _).mono ?_; rintro e w' ⟨rfl, rfl⟩)
      go_round
      case rel => exact ⟨k + 1, by omega, by go_num, by rw [take_snoc' vs k v HV.out, murL_snoc]⟩
      case measure => simp [intOf]; omega
    · have hkn : k = vs.length := by omega
      have HK := Lib.hid hkn
      clear hkn
      go_wp2_with (go_at_call 49; refine (murmurFinish_any _ _ _).mono ?_; rintro e w' ⟨rfl, rfl⟩)
      go_ret
      exact ⟨by rw [HK.out, List.take_length]; rfl, rfl⟩

def murS (h n : Int) : Int := wrap64 (murE1 (bits BinOp.xor IntKind.u32 h (n % 4294967296 * 4 % 4294967296)))
set_option maxHeartbeats 400000 in
theorem specMurmur_any (seed : Int) (A : Option Addr) (c : Nat) (vs : List Int) (n : Int) (B : Nat) (w : World) (hr : Reads w B 1 A vs.length (ints vs)) (hm : vs.length ≤ 9223372036854775807) :
    Calls Try.prog 15 #[.int .i64 seed, .slice A vs.length c, .int .i64 n] w (MurPost (murS (murA (seed % 4294967296) vs) n) w) := by
  go_enter Try.func15, Try.ntmps15
  go_wp2
  go_loop [7, 15] (fun h i => ∃ k : Nat, k ≤ vs.length ∧ i = .int .i64 k ∧ h = .int .u32 (murA (seed % 4294967296) (vs.take k))) (fun _ i => vs.length - (intOf i).toNat)
  case atStart => exact ⟨0, Nat.zero_le _, rfl, rfl⟩
  case round =>
    obtain ⟨k, hk, rfl, rfl⟩ := hrel
    by_cases hlt : k < vs.length
    · obtain ⟨ad, u, rfl, _, hx, hc⟩ := hr.at_ hlt
      obtain ⟨v, hv, rfl⟩ := ints_at hx
      have HV := Lib.hid hv
      clear hv hx hr
      go_wp2
      go_round
      case rel => exact ⟨k + 1, by omega, by go_num, by rw [take_snoc' vs k v HV.out, murA_snoc]; exact congrArg _ (Int.emod_add_emod _ _ _)⟩
      case measure => simp [intOf]; omega
    · have hkn : k = vs.length := by omega
      have HK := Lib.hid hkn
      clear hkn
      go_wp2
      go_ret
      exact ⟨by rw [HK.out, List.take_length]; rfl, rfl⟩
end Go.Proofs.Ytcbabfndfikejaa
