/-
  No cell of these rows narrows 'for every input' (looked for: loops, veiled, ifaces, maps, wideKeys, modest, calm, conditions, laid).
  DERIVED. THE GIVEN ROWS OF THIS SEAT. 6 by the template 'for every input the law returns true; each argument reads behind the call as it read before'; 0 by the template 'total and deterministic' (their statements: YtckdcceglmlinaaTotals.lean).
  GIVEN WITH THE SEED: the statements are not yours to turn. If you find one false, say at which input.
  Laid BY PROGRAM, IN A SANDBOX (cutbox-rows.mjs): the forced cells as the released guide's own fill.sh prints them over the translation 05ad8ca40dac3880… (all of the seat's roots in one cut). By AI agents, Wed Nov 11 2026. No macro, syntax, notation, axiom, sorry.
-/
import Derived.Test.YtckdcceglmlinaaChecked
import GoSem.Claim
import GoSem.ClaimJoined
import GoSem.ClaimMapViews
import Derived.JoinedTies
import Derived.KernelRfl
namespace Go.Proofs.Ytckdcceglmlinaa
/- THE CELL 'sum', in the pinned program and in every row, IS THE sha256 OF THE DUMP (.gsa) THAT YtckdcceglmlinaaProg.lean LOADS. Nothing in Lean hashes anything: it is a label: what it is worth is what the hold of that sum in a sandbox is worth. -/
noncomputable def Try.pinned : Pinned := { name := "ytckdcceglmlinaa", sum := "05ad8ca40dac38800f172c501f571482b21ba84640d501ae0298d328e1f2b895", checked := Try.checked }
namespace Rows
def none {H : Type} : Left H := { results := [], args := [] }

/-- 'laws.FnSameSets': WHATEVER THE INPUT: true; the input reads as it did. -/
def fnSameSetsSpec : ChangeSpec := { name := "fnSameSets", fn := fun _ => fun
  | [d1, d2] => { results := [.lit (.bool true)], args := [d1, d2] }
  | _ => none }
def fnSameSetsRow : OpenClaim := { program := "ytckdcceglmlinaa", sum := "05ad8ca40dac38800f172c501f571482b21ba84640d501ae0298d328e1f2b895", func := "loop.example/pub-contextsmerged/laws.FnSameSets", spec := "fnSameSets", apart := false }
def FnSameSetsSaid : Prop := fnSameSetsRow.holds Try.pinned (OpenSpec.ofChange fnSameSetsSpec)

/-- ITS FALSE NEIGHBOUR: 'it returns false'. Refute it at one input. -/
def fnSameSetsWrong : ChangeSpec := { name := "fnSameSets", fn := fun _ => fun
  | [d1, d2] => { results := [.lit (.bool false)], args := [d1, d2] }
  | _ => none }
def FnSameSetsWrongFalsely : Prop := fnSameSetsRow.holds Try.pinned (OpenSpec.ofChange fnSameSetsWrong)

/-- 'laws.FnContains': WHATEVER THE INPUT: true; the input reads as it did. -/
def fnContainsSpec : ChangeSpec := { name := "fnContains", fn := fun _ => fun
  | [d1, d2] => { results := [.lit (.bool true)], args := [d1, d2] }
  | _ => none }
def fnContainsRow : OpenClaim := { program := "ytckdcceglmlinaa", sum := "05ad8ca40dac38800f172c501f571482b21ba84640d501ae0298d328e1f2b895", func := "loop.example/pub-contextsmerged/laws.FnContains", spec := "fnContains", apart := false }
def FnContainsSaid : Prop := fnContainsRow.holds Try.pinned (OpenSpec.ofChange fnContainsSpec)

/-- ITS FALSE NEIGHBOUR: 'it returns false'. Refute it at one input. -/
def fnContainsWrong : ChangeSpec := { name := "fnContains", fn := fun _ => fun
  | [d1, d2] => { results := [.lit (.bool false)], args := [d1, d2] }
  | _ => none }
def FnContainsWrongFalsely : Prop := fnContainsRow.holds Try.pinned (OpenSpec.ofChange fnContainsWrong)

/-- 'laws.FnLength': WHATEVER THE INPUT: true; the input reads as it did. -/
def fnLengthSpec : ChangeSpec := { name := "fnLength", fn := fun _ => fun
  | [d] => { results := [.lit (.bool true)], args := [d] }
  | _ => none }
def fnLengthRow : OpenClaim := { program := "ytckdcceglmlinaa", sum := "05ad8ca40dac38800f172c501f571482b21ba84640d501ae0298d328e1f2b895", func := "loop.example/pub-contextsmerged/laws.FnLength", spec := "fnLength", apart := false }
def FnLengthSaid : Prop := fnLengthRow.holds Try.pinned (OpenSpec.ofChange fnLengthSpec)

/-- ITS FALSE NEIGHBOUR: 'it returns false'. Refute it at one input. -/
def fnLengthWrong : ChangeSpec := { name := "fnLength", fn := fun _ => fun
  | [d] => { results := [.lit (.bool false)], args := [d] }
  | _ => none }
def FnLengthWrongFalsely : Prop := fnLengthRow.holds Try.pinned (OpenSpec.ofChange fnLengthWrong)

/-- 'laws.FnComplement': WHATEVER THE INPUT: true; the input reads as it did. -/
def fnComplementSpec : ChangeSpec := { name := "fnComplement", fn := fun _ => fun
  | [d1, d2, d3] => { results := [.lit (.bool true)], args := [d1, d2, d3] }
  | _ => none }
def fnComplementRow : OpenClaim := { program := "ytckdcceglmlinaa", sum := "05ad8ca40dac38800f172c501f571482b21ba84640d501ae0298d328e1f2b895", func := "loop.example/pub-contextsmerged/laws.FnComplement", spec := "fnComplement", apart := false }
def FnComplementSaid : Prop := fnComplementRow.holds Try.pinned (OpenSpec.ofChange fnComplementSpec)

/-- ITS FALSE NEIGHBOUR: 'it returns false'. Refute it at one input. -/
def fnComplementWrong : ChangeSpec := { name := "fnComplement", fn := fun _ => fun
  | [d1, d2, d3] => { results := [.lit (.bool false)], args := [d1, d2, d3] }
  | _ => none }
def FnComplementWrongFalsely : Prop := fnComplementRow.holds Try.pinned (OpenSpec.ofChange fnComplementWrong)

/-- 'laws.FnSet': WHATEVER THE INPUT: true; the input reads as it did. -/
def fnSetSpec : ChangeSpec := { name := "fnSet", fn := fun _ => fun
  | [d] => { results := [.lit (.bool true)], args := [d] }
  | _ => none }
def fnSetRow : OpenClaim := { program := "ytckdcceglmlinaa", sum := "05ad8ca40dac38800f172c501f571482b21ba84640d501ae0298d328e1f2b895", func := "loop.example/pub-contextsmerged/laws.FnSet", spec := "fnSet", apart := false }
def FnSetSaid : Prop := fnSetRow.holds Try.pinned (OpenSpec.ofChange fnSetSpec)

/-- ITS FALSE NEIGHBOUR: 'it returns false'. Refute it at one input. -/
def fnSetWrong : ChangeSpec := { name := "fnSet", fn := fun _ => fun
  | [d] => { results := [.lit (.bool false)], args := [d] }
  | _ => none }
def FnSetWrongFalsely : Prop := fnSetRow.holds Try.pinned (OpenSpec.ofChange fnSetWrong)

/-- 'laws.FnAddSet': WHATEVER THE INPUT: true; the input reads as it did. -/
def fnAddSetSpec : ChangeSpec := { name := "fnAddSet", fn := fun _ => fun
  | [d1, d2] => { results := [.lit (.bool true)], args := [d1, d2] }
  | _ => none }
def fnAddSetRow : OpenClaim := { program := "ytckdcceglmlinaa", sum := "05ad8ca40dac38800f172c501f571482b21ba84640d501ae0298d328e1f2b895", func := "loop.example/pub-contextsmerged/laws.FnAddSet", spec := "fnAddSet", apart := false }
def FnAddSetSaid : Prop := fnAddSetRow.holds Try.pinned (OpenSpec.ofChange fnAddSetSpec)

/-- ITS FALSE NEIGHBOUR: 'it returns false'. Refute it at one input. -/
def fnAddSetWrong : ChangeSpec := { name := "fnAddSet", fn := fun _ => fun
  | [d1, d2] => { results := [.lit (.bool false)], args := [d1, d2] }
  | _ => none }
def FnAddSetWrongFalsely : Prop := fnAddSetRow.holds Try.pinned (OpenSpec.ofChange fnAddSetWrong)

/- THE SECOND FORM. 'bulk': how many values and letters a reading holds, each counted each time it is reached (what is shared counts as often as it is met; a slice's spare places count too). A statement '..UptoSaid' is the law's where the arguments, and the package variables that the reading takes, are together of bulk at most 1048576: NARROWER than '..Said'. Prove '..Said' where nothing that the law and all that it calls make is longer than what came in: it says more and counts as full. Else prove '..UptoSaid'. A law counts once. -/
mutual
def uptoBulk {H : Type} : DataW H → Nat
  | .lit (.string bytes) => bytes.length + 1
  | .lit _ => 1
  | .nil => 1
  | .ptr d => uptoBulk d + 1
  | .slice elems spare => uptoBulkAll elems + uptoBulkAll spare + 1
  | .agg parts => uptoBulkAll parts + 1
  | .iface _ d => uptoBulk d + 1
  | .map entries => uptoBulkEntries entries + 1
  | .held _ => 1
def uptoBulkAll {H : Type} : List (DataW H) → Nat
  | [] => 0
  | d :: r => uptoBulk d + uptoBulkAll r
def uptoBulkEntries {H : Type} : List (Lit × DataW H) → Nat
  | [] => 0
  | x :: r => uptoBulkEntry x + uptoBulkEntries r
def uptoBulkEntry {H : Type} : Lit × DataW H → Nat
  | (.string bytes, d) => bytes.length + uptoBulk d + 1
  | (_, d) => uptoBulk d + 1
 end
def uptoSmall : (H : Type) → List (DataW H) → Bool := fun _ ds => decide (uptoBulkAll ds ≤ 1048576)
def OpenSpec.upto (s : _root_.Go.ChangeSpec) : _root_.Go.OpenSpec := { _root_.Go.OpenSpec.ofChange s with cond := some uptoSmall }

/-- 'laws.FnSameSets', WHERE WHAT IT READS IS OF BULK AT MOST 1048576: true; the input reads as it did. -/
def fnSameSetsUptoRow : OpenClaim := { program := "ytckdcceglmlinaa", sum := "05ad8ca40dac38800f172c501f571482b21ba84640d501ae0298d328e1f2b895", func := "loop.example/pub-contextsmerged/laws.FnSameSets", spec := "fnSameSets", apart := false, narrowed := true }
def FnSameSetsUptoSaid : Prop := fnSameSetsUptoRow.holds Try.pinned (OpenSpec.upto fnSameSetsSpec)

/-- 'laws.FnContains', WHERE WHAT IT READS IS OF BULK AT MOST 1048576: true; the input reads as it did. -/
def fnContainsUptoRow : OpenClaim := { program := "ytckdcceglmlinaa", sum := "05ad8ca40dac38800f172c501f571482b21ba84640d501ae0298d328e1f2b895", func := "loop.example/pub-contextsmerged/laws.FnContains", spec := "fnContains", apart := false, narrowed := true }
def FnContainsUptoSaid : Prop := fnContainsUptoRow.holds Try.pinned (OpenSpec.upto fnContainsSpec)

/-- 'laws.FnLength', WHERE WHAT IT READS IS OF BULK AT MOST 1048576: true; the input reads as it did. -/
def fnLengthUptoRow : OpenClaim := { program := "ytckdcceglmlinaa", sum := "05ad8ca40dac38800f172c501f571482b21ba84640d501ae0298d328e1f2b895", func := "loop.example/pub-contextsmerged/laws.FnLength", spec := "fnLength", apart := false, narrowed := true }
def FnLengthUptoSaid : Prop := fnLengthUptoRow.holds Try.pinned (OpenSpec.upto fnLengthSpec)

/-- 'laws.FnComplement', WHERE WHAT IT READS IS OF BULK AT MOST 1048576: true; the input reads as it did. -/
def fnComplementUptoRow : OpenClaim := { program := "ytckdcceglmlinaa", sum := "05ad8ca40dac38800f172c501f571482b21ba84640d501ae0298d328e1f2b895", func := "loop.example/pub-contextsmerged/laws.FnComplement", spec := "fnComplement", apart := false, narrowed := true }
def FnComplementUptoSaid : Prop := fnComplementUptoRow.holds Try.pinned (OpenSpec.upto fnComplementSpec)

/-- 'laws.FnSet', WHERE WHAT IT READS IS OF BULK AT MOST 1048576: true; the input reads as it did. -/
def fnSetUptoRow : OpenClaim := { program := "ytckdcceglmlinaa", sum := "05ad8ca40dac38800f172c501f571482b21ba84640d501ae0298d328e1f2b895", func := "loop.example/pub-contextsmerged/laws.FnSet", spec := "fnSet", apart := false, narrowed := true }
def FnSetUptoSaid : Prop := fnSetUptoRow.holds Try.pinned (OpenSpec.upto fnSetSpec)

/-- 'laws.FnAddSet', WHERE WHAT IT READS IS OF BULK AT MOST 1048576: true; the input reads as it did. -/
def fnAddSetUptoRow : OpenClaim := { program := "ytckdcceglmlinaa", sum := "05ad8ca40dac38800f172c501f571482b21ba84640d501ae0298d328e1f2b895", func := "loop.example/pub-contextsmerged/laws.FnAddSet", spec := "fnAddSet", apart := false, narrowed := true }
def FnAddSetUptoSaid : Prop := fnAddSetUptoRow.holds Try.pinned (OpenSpec.upto fnAddSetSpec)

end Rows
end Go.Proofs.Ytckdcceglmlinaa
