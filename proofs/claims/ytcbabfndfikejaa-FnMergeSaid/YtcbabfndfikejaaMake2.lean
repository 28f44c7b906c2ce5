/- The walks of what makes a choice, which also tell the addresses of what is below. Conditions: what is below lies in memory. -/
import Derived.Test.YtcbabfndfikejaaBuild
namespace Go.Proofs.Ytcbabfndfikejaa
open Go.RowKit

/-- The addresses of what is below p. -/
def KidsX (w : World) (X : Nat → Prop) (p : Addr) (rs : List Addr) : Prop := ∃ g k h ss, p = ⟨g, 0, none⟩ ∧ Shape w X g k h ss rs
theorem KidsX.move {w w' : World} {X X' : Nat → Prop} {p : Addr} {rs : List Addr} (h : KidsX w X p rs) (hm : Move X X' w w') : KidsX w' X' p rs := by
  obtain ⟨g, k, h', ss, h1, h2⟩ := h
  exact ⟨g, k, h', ss, h1, h2.move hm⟩
/-- What is below p is among qs. -/
def KidIn (w : World) (X : Nat → Prop) (p : Addr) (qs : List Addr) : Prop := ∃ rs, KidsX w X p rs ∧ ∀ q ∈ rs, q ∈ qs
theorem KidIn.move {w w' : World} {X X' : Nat → Prop} {p : Addr} {qs : List Addr} (h : KidIn w X p qs) (hm : Move X X' w w') : KidIn w' X' p qs := by
  obtain ⟨rs, h1, h2⟩ := h
  exact ⟨rs, h1.move hm, h2⟩
theorem KidIn.stay {w w' : World} {X : Nat → Prop} {p : Addr} {qs : List Addr} (h : KidIn w X p qs) (hs : Stay w w') : KidIn w' X p qs := h.move (hs.move X)
theorem KidIn.more {w : World} {X : Nat → Prop} {p q : Addr} {qs : List Addr} (h : KidIn w X p qs) : KidIn w X p (qs ++ [q]) := by
  obtain ⟨rs, h1, h2⟩ := h
  exact ⟨rs, h1, fun x hx => List.mem_append_left _ (h2 x hx)⟩
theorem kids_empty {w : World} {X : Nat → Prop} {p : Addr} (h : Rep w X p 0 .nil) (qs : List Addr) : KidIn w X p qs := by
  obtain ⟨g, h1, rs, h2, h3⟩ := h
  have h3 : rs = [] := h3
  subst h3
  exact ⟨[], ⟨g, _, _, _, h1, h2⟩, by simp⟩
/-- A new choice is handed back, with what is below it; nothing that was there has turned. -/
def NewPostK (X : Nat → Prop) (k : Nat) (f : Tops) (rs : List Addr) (w : World) (e : Ending) (w' : World) : Prop := ∃ p, e = .returned (.pointer (some p)) ∧ Rep w' X p k f ∧ KidsX w' X p rs ∧ w.heap.size ≤ p.block ∧ Below w.heap.size w w'
theorem NewSingletonK_any (X : Nat → Prop) (p : Addr) (k : Nat) (f : Tops) (s : Int) (w : World) (hX : OldX X w) (h : Rep w X p k f) : Calls Try.prog 65 #[.pointer (some p), .int .i64 s] w (NewPostK X 1 (.cons s k f .nil) [p] w) := by
  obtain ⟨g, rfl, _⟩ := h.cell
  have H := Lib.hid h
  clear h
  go_enter Try.func65, Try.ntmps65
  go_wp2_with fail
  refine (calculateHash_any _ _ _ _ s _ (H.out.stay (Stay.of_below ((Below.refl _ _).alloc (Nat.le_refl _) _)))).mono ?_
  rintro e w' ⟨rfl, rfl⟩
  rw [← hsh_single]
  go_wp2_with fail
  go_ret
  have hs := H.out.stay (Stay.of_below ((Below.refl w.heap.size w).alloc (Nat.le_refl _) (Obj.cells #[.int .i64 (hsh 1 (.cons s k f .nil)), .int .i64 1, .pointer (some ⟨g, 0, none⟩), .int .i64 s, .slice none 0 0, .slice none 0 0] 97)))
  obtain ⟨g', he, qs, h1, h2⟩ := hs
  cases he
  have hshape : Shape (w.alloc (Obj.cells #[.int .i64 (hsh 1 (.cons s k f .nil)), .int .i64 1, .pointer (some ⟨g, 0, none⟩), .int .i64 s, .slice none 0 0, .slice none 0 0] 97)) X w.heap.size 1 (hsh 1 (.cons s k f .nil)) [s] [⟨g, 0, none⟩] := ⟨hX.new, rfl, .inr (.inl ⟨rfl, s, _, rfl, rfl, heap_alloc_new w _⟩)⟩
  exact ⟨_, rfl, ⟨w.heap.size, rfl, [⟨g, 0, none⟩], hshape, ⟨g, [], rfl, ⟨qs, h1, h2⟩, rfl⟩⟩, ⟨_, _, _, _, rfl, hshape⟩, Nat.le_refl _, (Below.refl _ _).alloc (Nat.le_refl _) _⟩

set_option maxHeartbeats 1000000 in
theorem NewArrayK_any (X : Nat → Prop) (A A' : Option Addr) (c c' : Nat) (f : Tops) (qs : List Addr) (w : World) (hX : OldX X w) (hp : Row w X 72 A f.len (ptrs qs)) (hq : Row w X 3 A' f.len (ints f.sts)) (hsub : Subs w X f qs) (hm : f.len ≤ 1000) :
    Calls Try.prog 66 #[.slice A f.len c, .slice A' f.len c'] w (NewPostK X 2 f qs w) := by
  have HS := Lib.hid hsub
  have HP := Lib.hid hp
  have HQ := Lib.hid hq
  have hql := Subs.length _ _ hsub
  have hpl : f.hs.length = f.len := f.hs_length
  have hsl : f.sts.length = f.len := f.sts_length
  have HQL := Lib.hid hql
  have HPL := Lib.hid hpl
  have HSL := Lib.hid hsl
  clear hsub hp hq hql hpl hsl
  go_enter Try.func66, Try.ntmps66
  go_wp2_with (go_at_call 47; refine (murmurInit_any _ _).mono ?_; rintro e w' ⟨rfl, rfl⟩)
  go_loop [5, 14] (fun h i => ∃ k : Nat, k ≤ f.len ∧ i = .int .i64 k ∧ h = .int .i64 (murL 1 (f.hs.take k))) (fun _ i => f.len - (intOf i).toNat)
  case atStart => exact ⟨0, Nat.zero_le _, rfl, rfl⟩
  case round =>
    obtain ⟨k, hk, rfl, rfl⟩ := hrel
    by_cases hlt : k < f.len
    · obtain ⟨b, off, u, rfl, _, hu, hc⟩ := HP.out.reads.at1 hlt
      obtain ⟨q, hqk, rfl⟩ := ptrs_at hu
      obtain ⟨k1, sub, hrep, hhs⟩ := subs_hash HS.out hqk
      have HR := Lib.hid hrep
      have HH := Lib.hid (take_snoc' f.hs k _ hhs)
      clear hu hqk hrep hhs
      go_wp2_with (first
        | (go_at_call 53; refine (Hash_any _ _ _ _ _ HR.out).mono ?_; rintro e w' ⟨rfl, rfl⟩)
        | (go_at_call 48; refine (murmurUpdate_any _ _ _).mono ?_; rintro e w' ⟨rfl, rfl⟩))
      go_round
      case rel => exact ⟨k + 1, by omega, by go_num, by rw [HH.out, murL_snoc]⟩
      case measure => simp [intOf]; omega
    · have hkn : k = f.len := by omega
      have HK := Lib.hid (show murL 1 (f.hs.take k) = murL 1 f.hs by rw [hkn, ← HPL.out, List.take_length])
      clear hkn
      rw [HK.out]
      go_wp2_with fail
      go_loop [5, 25] (fun h i => ∃ k : Nat, k ≤ f.len ∧ i = .int .i64 k ∧ h = .int .i64 (murL (murL 1 f.hs) (f.sts.take k))) (fun _ i => f.len - (intOf i).toNat)
      case atStart => exact ⟨0, Nat.zero_le _, rfl, rfl⟩
      case round =>
        obtain ⟨j, hj, rfl, rfl⟩ := hrel
        by_cases hlt2 : j < f.len
        · obtain ⟨b, off, u, rfl, _, hu, hc⟩ := HQ.out.reads.at1 hlt2
          obtain ⟨s, hs, rfl⟩ := ints_at hu
          have HH := Lib.hid (take_snoc' f.sts j _ hs)
          clear hu hs
          go_wp2_with (go_at_call 48; refine (murmurUpdate_any _ _ _).mono ?_; rintro e w' ⟨rfl, rfl⟩)
          go_round
          case rel => exact ⟨j + 1, by omega, by go_num, by rw [HH.out, murL_snoc]⟩
          case measure => simp [intOf]; omega
        · have hjn : j = f.len := by omega
          have HK2 := Lib.hid (show murL (murL 1 f.hs) (f.sts.take j) = murL (murL 1 f.hs) f.sts by rw [hjn, ← HSL.out, List.take_length])
          clear hjn
          rw [HK2.out]
          go_wp2_with (go_at_call 49; refine (murmurFinish_any _ _ _).mono ?_; rintro e w' ⟨rfl, rfl⟩)
          go_ret
          have st : ∀ o, Stay w (w.alloc o) := fun o => (Stay.refl w).alloc o
          have hshape : Shape (w.alloc (Obj.cells #[.int .i64 (murF (murL (murL 1 f.hs) f.sts) ((f.len : Int) * 2)), .int .i64 2, .pointer none, .int .i64 0, .slice A f.len c, .slice A' f.len c'] 97)) X w.heap.size 2 (hsh 2 f) f.sts qs := by
            refine ⟨hX.new, by rw [HQL.out, HSL.out], .inr (.inr ⟨rfl, A, c, A', c', ?_, ?_, ?_⟩)⟩
            · rw [hsh_array, HSL.out, Int.mul_comm 2]; exact heap_alloc_new w _
            · rw [HSL.out]; exact HP.out.stay (st _) (.inr (.inl rfl))
            · rw [HSL.out]; exact HQ.out.stay (st _) (.inr (.inr rfl))
          exact ⟨_, rfl, ⟨w.heap.size, rfl, qs, hshape, Subs.stay HS.out (st _)⟩, ⟨_, _, _, _, rfl, hshape⟩, Nat.le_refl _, (Below.refl _ _).alloc (Nat.le_refl _) _⟩
end Go.Proofs.Ytcbabfndfikejaa
