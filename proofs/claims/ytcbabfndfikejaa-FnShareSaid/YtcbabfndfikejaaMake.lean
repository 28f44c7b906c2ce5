/- The walks of what makes a choice: the empty one, one top, an array; and of what reads its hash. Conditions: what is below lies in memory. -/
import Derived.Test.YtcbabfndfikejaaCtx
import Derived.BigQuiet
import Derived.Deep.QuietTactic
import Derived.Deep.Light
namespace Go.Proofs.Ytcbabfndfikejaa
open Go.RowKit

/-- A new choice is handed back; nothing that was there has turned. -/
def NewPost (X : Nat → Prop) (k : Nat) (f : Tops) (w : World) (e : Ending) (w' : World) : Prop := ∃ p, e = .returned (.pointer (some p)) ∧ Rep w' X p k f ∧ Below w.heap.size w w'
def OldX (X : Nat → Prop) (w : World) : Prop := ∀ g, X g → g < w.heap.size
theorem OldX.new {X : Nat → Prop} {w : World} (h : OldX X w) : ¬ X w.heap.size := fun hx => Nat.lt_irrefl _ (h _ hx)
theorem OldX.ext {X : Nat → Prop} {w w' : World} (h : OldX X w) (hs : w.heap.size ≤ w'.heap.size) : OldX X w' := fun g hg => Nat.lt_of_lt_of_le (h g hg) hs

theorem EMPTY_any (X : Nat → Prop) (w : World) (hX : OldX X w) : Calls Try.prog 64 #[] w (NewPost X 0 .nil w) := by
  go_enter Try.func64, Try.ntmps64
  go_wp2
  go_ret
  refine ⟨_, rfl, ⟨_, rfl, [], ⟨hX.new, rfl, .inl ⟨rfl, rfl, heap_alloc_new w _⟩⟩, rfl⟩, (Below.refl _ _).alloc (Nat.le_refl _) _⟩

def IntPost (r : Int) (w : World) (e : Ending) (w' : World) : Prop := e = .returned (.int .i64 r) ∧ w = w'
theorem Hash_any (X : Nat → Prop) (p : Addr) (k : Nat) (f : Tops) (w : World) (h : Rep w X p k f) : Calls Try.prog 53 #[.pointer (some p)] w (IntPost (hsh k f) w) := by
  obtain ⟨g, rfl, c0, c1⟩ := h.cell
  clear h
  go_enter Try.func53, Try.ntmps53
  go_wp2
  go_ret
  exact ⟨rfl, rfl⟩

theorem calculateHash_any (X : Nat → Prop) (p : Addr) (k : Nat) (f : Tops) (s : Int) (w : World) (h : Rep w X p k f) : Calls Try.prog 90 #[.pointer (some p), .int .i64 s] w (IntPost (murF (murU (murU 1 (hsh k f)) s) 2) w) := by
  have H := Lib.hid h
  clear h
  go_enter Try.func90, Try.ntmps90
  go_wp2_with (first
    | (go_at_call 47; refine (murmurInit_any _ _).mono ?_; rintro e w' ⟨rfl, rfl⟩)
    | (go_at_call 53; refine (Hash_any _ _ _ _ _ H.out).mono ?_; rintro e w' ⟨rfl, rfl⟩)
    | (go_at_call 48; refine (murmurUpdate_any _ _ _).mono ?_; rintro e w' ⟨rfl, rfl⟩)
    | (go_at_call 49; refine (murmurFinish_any _ _ _).mono ?_; rintro e w' ⟨rfl, rfl⟩))
  go_ret
  exact ⟨rfl, rfl⟩

theorem hsh_single (s : Int) (k : Nat) (f : Tops) : hsh 1 (.cons s k f .nil) = murF (murU (murU 1 (hsh k f)) s) 2 := by
  simp [hsh, hashOf, Tops.hs, Tops.sts, murL]

theorem NewSingleton_any (X : Nat → Prop) (p : Addr) (k : Nat) (f : Tops) (s : Int) (w : World) (hX : OldX X w) (h : Rep w X p k f) : Calls Try.prog 65 #[.pointer (some p), .int .i64 s] w (NewPost X 1 (.cons s k f .nil) w) := by
  obtain ⟨g, rfl, _⟩ := h.cell
  have H := Lib.hid h
  clear h
  go_enter Try.func65, Try.ntmps65
  go_wp2_with fail
  refine (calculateHash_any _ _ _ _ s _ (H.out.stay (Stay.of_below ((Below.refl _ _).alloc (Nat.le_refl _) _)))).mono ?_
  rintro e w' ⟨rfl, rfl⟩
  rw [← hsh_single]
  go_wp2_with fail
  go_ret
  have hs := H.out.stay (Stay.of_below ((Below.refl w.heap.size w).alloc (Nat.le_refl _) (Obj.cells #[.int .i64 (hsh 1 (.cons s k f .nil)), .int .i64 1, .pointer (some ⟨g, 0, none⟩), .int .i64 s, .slice none 0 0, .slice none 0 0] 97)))
  obtain ⟨g', he, qs, h1, h2⟩ := hs
  cases he
  exact ⟨_, rfl, ⟨w.heap.size, rfl, [⟨g, 0, none⟩], ⟨hX.new, rfl, .inr (.inl ⟨rfl, s, _, rfl, rfl, heap_alloc_new w _⟩)⟩, ⟨g, [], rfl, ⟨qs, h1, h2⟩, rfl⟩⟩, (Below.refl _ _).alloc (Nat.le_refl _) _⟩

theorem subs_hash {w : World} {X : Nat → Prop} {f : Tops} {qs : List Addr} {i : Nat} {q : Addr} (h : Subs w X f qs) (hi : qs[i]? = some q) : ∃ k sub, Rep w X q k sub ∧ f.hs[i]? = some (hsh k sub) := by
  obtain ⟨s, k, sub, h1, h2⟩ := Subs.at_ f qs i q h hi
  exact ⟨k, sub, h2, (Tops.at_hs f i s k sub h1).1⟩

theorem hsh_array (f : Tops) : hsh 2 f = murF (murL (murL 1 f.hs) f.sts) (2 * f.len) := by
  have : ∀ (h : Int) (l m : List Int), murL h (l ++ m) = murL (murL h l) m := by
    intro h l m
    induction l generalizing h with
    | nil => rfl
    | cons a l ih => exact ih _
  simp [hsh, hashOf, this, Tops.sts_length]

set_option maxHeartbeats 1000000 in
theorem NewArray_any (X : Nat → Prop) (A A' : Option Addr) (c c' : Nat) (f : Tops) (qs : List Addr) (w : World) (hX : OldX X w) (hp : Row w X 72 A f.len (ptrs qs)) (hq : Row w X 3 A' f.len (ints f.sts)) (hsub : Subs w X f qs) (hm : f.len ≤ 1000) :
    Calls Try.prog 66 #[.slice A f.len c, .slice A' f.len c'] w (NewPost X 2 f w) := by
  have HS := Lib.hid hsub
  have HP := Lib.hid hp
  have HQ := Lib.hid hq
  have hql := Subs.length _ _ hsub
  have hpl : f.hs.length = f.len := f.hs_length
  have hsl : f.sts.length = f.len := f.sts_length
  have HQL := Lib.hid hql
  have HPL := Lib.hid hpl
  have HSL := Lib.hid hsl
  clear hsub hp hq hql hpl hsl
  go_enter Try.func66, Try.ntmps66
  go_wp2_with (go_at_call 47; refine (murmurInit_any _ _).mono ?_; rintro e w' ⟨rfl, rfl⟩)
  go_loop [5, 14] (fun h i => ∃ k : Nat, k ≤ f.len ∧ i = .int .i64 k ∧ h = .int .i64 (murL 1 (f.hs.take k))) (fun _ i => f.len - (intOf i).toNat)
  case atStart => exact ⟨0, Nat.zero_le _, rfl, rfl⟩
  case round =>
    obtain ⟨k, hk, rfl, rfl⟩ := hrel
    by_cases hlt : k < f.len
    · obtain ⟨b, off, u, rfl, _, hu, hc⟩ := HP.out.reads.at1 hlt
      obtain ⟨q, hqk, rfl⟩ := ptrs_at hu
      obtain ⟨k1, sub, hrep, hhs⟩ := subs_hash HS.out hqk
      have HR := Lib.hid hrep
      have HH := Lib.hid (take_snoc' f.hs k _ hhs)
      clear hu hqk hrep hhs
      go_wp2_with (first
        | (go_at_call 53; refine (Hash_any _ _ _ _ _ HR.out).mono ?_; rintro e w' ⟨rfl, rfl⟩)
        | (go_at_call 48; refine (murmurUpdate_any _ _ _).mono ?_; rintro e w' ⟨rfl, rfl⟩))
      go_round
      case rel => exact ⟨k + 1, by omega, by go_num, by rw [HH.out, murL_snoc]⟩
      case measure => simp [intOf]; omega
    · have hkn : k = f.len := by omega
      have HK := Lib.hid (show murL 1 (f.hs.take k) = murL 1 f.hs by rw [hkn, ← HPL.out, List.take_length])
      clear hkn
      rw [HK.out]
      go_wp2_with fail
      go_loop [5, 25] (fun h i => ∃ k : Nat, k ≤ f.len ∧ i = .int .i64 k ∧ h = .int .i64 (murL (murL 1 f.hs) (f.sts.take k))) (fun _ i => f.len - (intOf i).toNat)
      case atStart => exact ⟨0, Nat.zero_le _, rfl, rfl⟩
      case round =>
        obtain ⟨j, hj, rfl, rfl⟩ := hrel
        by_cases hlt2 : j < f.len
        · obtain ⟨b, off, u, rfl, _, hu, hc⟩ := HQ.out.reads.at1 hlt2
          obtain ⟨s, hs, rfl⟩ := ints_at hu
          have HH := Lib.hid (take_snoc' f.sts j _ hs)
          clear hu hs
          go_wp2_with (go_at_call 48; refine (murmurUpdate_any _ _ _).mono ?_; rintro e w' ⟨rfl, rfl⟩)
          go_round
          case rel => exact ⟨j + 1, by omega, by go_num, by rw [HH.out, murL_snoc]⟩
          case measure => simp [intOf]; omega
        · have hjn : j = f.len := by omega
          have HK2 := Lib.hid (show murL (murL 1 f.hs) (f.sts.take j) = murL (murL 1 f.hs) f.sts by rw [hjn, ← HSL.out, List.take_length])
          clear hjn
          rw [HK2.out]
          go_wp2_with (go_at_call 49; refine (murmurFinish_any _ _ _).mono ?_; rintro e w' ⟨rfl, rfl⟩)
          go_ret
          have st : ∀ o, Stay w (w.alloc o) := fun o => (Stay.refl w).alloc o
          refine ⟨_, rfl, ⟨w.heap.size, rfl, qs, ⟨hX.new, by rw [HQL.out, HSL.out], .inr (.inr ⟨rfl, A, c, A', c', ?_, ?_, ?_⟩)⟩, Subs.stay HS.out (st _)⟩, (Below.refl _ _).alloc (Nat.le_refl _) _⟩
          · rw [hsh_array, HSL.out, Int.mul_comm 2]; exact heap_alloc_new w _
          · rw [HSL.out]; exact HP.out.stay (st _) (.inr (.inl rfl))
          · rw [HSL.out]; exact HQ.out.stay (st _) (.inr (.inr rfl))
end Go.Proofs.Ytcbabfndfikejaa
