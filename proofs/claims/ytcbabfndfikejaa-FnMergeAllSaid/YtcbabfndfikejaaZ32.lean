/- A list of ints that came in as an argument, opened. No condition. -/
import Derived.Test.YtcbabfndfikejaaZ2
namespace Go.Proofs.Ytcbabfndfikejaa
open Go.RowKit Go.ChangeShapes Go.WideShapes Go.Deep
section
variable {H : Type} {enc : TypeId × Value → H} {w : World} {base : Nat} {spare : Nat → Bool} {held : Bool}
theorem ints_of_arg {v : Value} {d : DataW H} {p : List MemPlace} (h : DataW.Trod enc Try.prog w base spare held 22 v d p) (hs : ∃ A l c, v = .slice A l c) :
    ∃ (A : Option Addr) (c : Nat) (vs : List Int), v = .slice A vs.length c ∧ Reads w w.heap.size 1 A vs.length (ints vs) ∧ vs.length ≤ maxLen := by
  obtain ⟨A, l, c, rfl⟩ := hs
  obtain ⟨fuel, hf⟩ := h
  have hl : l ≤ maxLen := by
    rcases open_ints Try.underlying22 Try.underlying3 (by kernel_rfl) hf with ⟨hcs, _⟩ | ⟨a, len, cap, zs, hcs, _, hl, hm, _⟩
    · simp [Value.cells] at hcs
      obtain ⟨rfl, rfl, rfl⟩ := hcs
      simp
    · simp [Value.cells] at hcs
      obtain ⟨rfl, rfl, rfl⟩ := hcs
      omega
  obtain ⟨A', c', vs, hv, r⟩ := ints_of_trod (v := .slice A l c) (by simpa [Value.cells] using hf)
  cases hv
  exact ⟨A, c, vs, rfl, r, hl⟩
end
end Go.Proofs.Ytcbabfndfikejaa
