/-
  No cell of these rows narrows 'for every input' (looked for: loops, veiled, ifaces, maps, wideKeys, modest, calm, conditions, laid).
  DERIVED. THE GIVEN ROWS OF THIS SEAT. 11 by the template 'for every input the law returns true; each argument reads behind the call as it read before'; 0 by the template 'total and deterministic' (their statements: YtcbabfndfikejaaTotals.lean).
  GIVEN WITH THE SEED: the statements are not yours to turn. If you find one false, say at which input.
  Laid BY PROGRAM, IN A SANDBOX (cutbox-rows.mjs): the forced cells as the released guide's own fill.sh prints them over the translation 0608ffb3a4faf840… (all of the seat's roots in one cut). By AI agents, Wed Nov 11 2026. No macro, syntax, notation, axiom, sorry.
-/
import Derived.Test.YtcbabfndfikejaaChecked
import GoSem.Claim
import GoSem.ClaimJoined
import GoSem.ClaimMapViews
import Derived.JoinedTies
import Derived.KernelRfl
namespace Go.Proofs.Ytcbabfndfikejaa
/- THE CELL 'sum', in the pinned program and in every row, IS THE sha256 OF THE DUMP (.gsa) THAT YtcbabfndfikejaaProg.lean LOADS. Nothing in Lean hashes anything: it is a label: what it is worth is what the hold of that sum in a sandbox is worth. -/
noncomputable def Try.pinned : Pinned := { name := "ytcbabfndfikejaa", sum := "0608ffb3a4faf840e0848b542641759a92d584494d3fbe5c386f70987d6f175f", checked := Try.checked }
namespace Rows
def none {H : Type} : Left H := { results := [], args := [] }

/-- 'laws.FnMurmur': WHATEVER THE INPUT: true; the input reads as it did. -/
def fnMurmurSpec : ChangeSpec := { name := "fnMurmur", fn := fun _ => fun
  | [d1, d2, d3] => { results := [.lit (.bool true)], args := [d1, d2, d3] }
  | _ => none }
def fnMurmurRow : OpenClaim := { program := "ytcbabfndfikejaa", sum := "0608ffb3a4faf840e0848b542641759a92d584494d3fbe5c386f70987d6f175f", func := "loop.example/pub-contextsmerged/laws.FnMurmur", spec := "fnMurmur", apart := false }
def FnMurmurSaid : Prop := fnMurmurRow.holds Try.pinned (OpenSpec.ofChange fnMurmurSpec)

/-- ITS FALSE NEIGHBOUR: 'it returns false'. Refute it at one input. -/
def fnMurmurWrong : ChangeSpec := { name := "fnMurmur", fn := fun _ => fun
  | [d1, d2, d3] => { results := [.lit (.bool false)], args := [d1, d2, d3] }
  | _ => none }
def FnMurmurWrongFalsely : Prop := fnMurmurRow.holds Try.pinned (OpenSpec.ofChange fnMurmurWrong)

/-- 'laws.FnEmptyPath': WHATEVER THE INPUT: true; the input reads as it did. -/
def fnEmptyPathSpec : ChangeSpec := { name := "fnEmptyPath", fn := fun _ => fun
  | [d1, d2] => { results := [.lit (.bool true)], args := [d1, d2] }
  | _ => none }
def fnEmptyPathRow : OpenClaim := { program := "ytcbabfndfikejaa", sum := "0608ffb3a4faf840e0848b542641759a92d584494d3fbe5c386f70987d6f175f", func := "loop.example/pub-contextsmerged/laws.FnEmptyPath", spec := "fnEmptyPath", unfollowed := true, recurses := true, apart := false }
def FnEmptyPathSaid : Prop := fnEmptyPathRow.holds Try.pinned (OpenSpec.ofChange fnEmptyPathSpec)

/-- ITS FALSE NEIGHBOUR: 'it returns false'. Refute it at one input. -/
def fnEmptyPathWrong : ChangeSpec := { name := "fnEmptyPath", fn := fun _ => fun
  | [d1, d2] => { results := [.lit (.bool false)], args := [d1, d2] }
  | _ => none }
def FnEmptyPathWrongFalsely : Prop := fnEmptyPathRow.holds Try.pinned (OpenSpec.ofChange fnEmptyPathWrong)

/-- 'laws.FnEqual': WHATEVER THE INPUT: true; the input reads as it did. -/
def fnEqualSpec : ChangeSpec := { name := "fnEqual", fn := fun _ => fun
  | [d1, d2, d3] => { results := [.lit (.bool true)], args := [d1, d2, d3] }
  | _ => none }
def fnEqualRow : OpenClaim := { program := "ytcbabfndfikejaa", sum := "0608ffb3a4faf840e0848b542641759a92d584494d3fbe5c386f70987d6f175f", func := "loop.example/pub-contextsmerged/laws.FnEqual", spec := "fnEqual", unfollowed := true, recurses := true, apart := false }
def FnEqualSaid : Prop := fnEqualRow.holds Try.pinned (OpenSpec.ofChange fnEqualSpec)

/-- ITS FALSE NEIGHBOUR: 'it returns false'. Refute it at one input. -/
def fnEqualWrong : ChangeSpec := { name := "fnEqual", fn := fun _ => fun
  | [d1, d2, d3] => { results := [.lit (.bool false)], args := [d1, d2, d3] }
  | _ => none }
def FnEqualWrongFalsely : Prop := fnEqualRow.holds Try.pinned (OpenSpec.ofChange fnEqualWrong)

/-- 'laws.FnHash': WHATEVER THE INPUT: true; the input reads as it did. -/
def fnHashSpec : ChangeSpec := { name := "fnHash", fn := fun _ => fun
  | [d1, d2, d3] => { results := [.lit (.bool true)], args := [d1, d2, d3] }
  | _ => none }
def fnHashRow : OpenClaim := { program := "ytcbabfndfikejaa", sum := "0608ffb3a4faf840e0848b542641759a92d584494d3fbe5c386f70987d6f175f", func := "loop.example/pub-contextsmerged/laws.FnHash", spec := "fnHash", unfollowed := true, recurses := true, apart := false }
def FnHashSaid : Prop := fnHashRow.holds Try.pinned (OpenSpec.ofChange fnHashSpec)

/-- ITS FALSE NEIGHBOUR: 'it returns false'. Refute it at one input. -/
def fnHashWrong : ChangeSpec := { name := "fnHash", fn := fun _ => fun
  | [d1, d2, d3] => { results := [.lit (.bool false)], args := [d1, d2, d3] }
  | _ => none }
def FnHashWrongFalsely : Prop := fnHashRow.holds Try.pinned (OpenSpec.ofChange fnHashWrong)

/-- 'laws.FnCommon': WHATEVER THE INPUT: true; the input reads as it did. -/
def fnCommonSpec : ChangeSpec := { name := "fnCommon", fn := fun _ => fun
  | [d1, d2] => { results := [.lit (.bool true)], args := [d1, d2] }
  | _ => none }
def fnCommonRow : OpenClaim := { program := "ytcbabfndfikejaa", sum := "0608ffb3a4faf840e0848b542641759a92d584494d3fbe5c386f70987d6f175f", func := "loop.example/pub-contextsmerged/laws.FnCommon", spec := "fnCommon", unfollowed := true, recurses := true, apart := false }
def FnCommonSaid : Prop := fnCommonRow.holds Try.pinned (OpenSpec.ofChange fnCommonSpec)

/-- ITS FALSE NEIGHBOUR: 'it returns false'. Refute it at one input. -/
def fnCommonWrong : ChangeSpec := { name := "fnCommon", fn := fun _ => fun
  | [d1, d2] => { results := [.lit (.bool false)], args := [d1, d2] }
  | _ => none }
def FnCommonWrongFalsely : Prop := fnCommonRow.holds Try.pinned (OpenSpec.ofChange fnCommonWrong)

/-- 'laws.FnShare': WHATEVER THE INPUT: true; the input reads as it did. -/
def fnShareSpec : ChangeSpec := { name := "fnShare", fn := fun _ => fun
  | [d1, d2] => { results := [.lit (.bool true)], args := [d1, d2] }
  | _ => none }
def fnShareRow : OpenClaim := { program := "ytcbabfndfikejaa", sum := "0608ffb3a4faf840e0848b542641759a92d584494d3fbe5c386f70987d6f175f", func := "loop.example/pub-contextsmerged/laws.FnShare", spec := "fnShare", unfollowed := true, recurses := true, apart := false }
def FnShareSaid : Prop := fnShareRow.holds Try.pinned (OpenSpec.ofChange fnShareSpec)

/-- ITS FALSE NEIGHBOUR: 'it returns false'. Refute it at one input. -/
def fnShareWrong : ChangeSpec := { name := "fnShare", fn := fun _ => fun
  | [d1, d2] => { results := [.lit (.bool false)], args := [d1, d2] }
  | _ => none }
def FnShareWrongFalsely : Prop := fnShareRow.holds Try.pinned (OpenSpec.ofChange fnShareWrong)

/-- 'laws.FnMerge': WHATEVER THE INPUT: true; the input reads as it did. -/
def fnMergeSpec : ChangeSpec := { name := "fnMerge", fn := fun _ => fun
  | [d1, d2, d3, d4] => { results := [.lit (.bool true)], args := [d1, d2, d3, d4] }
  | _ => none }
def fnMergeRow : OpenClaim := { program := "ytcbabfndfikejaa", sum := "0608ffb3a4faf840e0848b542641759a92d584494d3fbe5c386f70987d6f175f", func := "loop.example/pub-contextsmerged/laws.FnMerge", spec := "fnMerge", unfollowed := true, recurses := true, apart := false }
def FnMergeSaid : Prop := fnMergeRow.holds Try.pinned (OpenSpec.ofChange fnMergeSpec)

/-- ITS FALSE NEIGHBOUR: 'it returns false'. Refute it at one input. -/
def fnMergeWrong : ChangeSpec := { name := "fnMerge", fn := fun _ => fun
  | [d1, d2, d3, d4] => { results := [.lit (.bool false)], args := [d1, d2, d3, d4] }
  | _ => none }
def FnMergeWrongFalsely : Prop := fnMergeRow.holds Try.pinned (OpenSpec.ofChange fnMergeWrong)

/-- 'laws.FnMergeBack': WHATEVER THE INPUT: true; the input reads as it did. -/
def fnMergeBackSpec : ChangeSpec := { name := "fnMergeBack", fn := fun _ => fun
  | [d1, d2, d3, d4] => { results := [.lit (.bool true)], args := [d1, d2, d3, d4] }
  | _ => none }
def fnMergeBackRow : OpenClaim := { program := "ytcbabfndfikejaa", sum := "0608ffb3a4faf840e0848b542641759a92d584494d3fbe5c386f70987d6f175f", func := "loop.example/pub-contextsmerged/laws.FnMergeBack", spec := "fnMergeBack", unfollowed := true, recurses := true, apart := false }
def FnMergeBackSaid : Prop := fnMergeBackRow.holds Try.pinned (OpenSpec.ofChange fnMergeBackSpec)

/-- ITS FALSE NEIGHBOUR: 'it returns false'. Refute it at one input. -/
def fnMergeBackWrong : ChangeSpec := { name := "fnMergeBack", fn := fun _ => fun
  | [d1, d2, d3, d4] => { results := [.lit (.bool false)], args := [d1, d2, d3, d4] }
  | _ => none }
def FnMergeBackWrongFalsely : Prop := fnMergeBackRow.holds Try.pinned (OpenSpec.ofChange fnMergeBackWrong)

/-- 'laws.FnMergeItself': WHATEVER THE INPUT: true; the input reads as it did. -/
def fnMergeItselfSpec : ChangeSpec := { name := "fnMergeItself", fn := fun _ => fun
  | [d1, d2, d3] => { results := [.lit (.bool true)], args := [d1, d2, d3] }
  | _ => none }
def fnMergeItselfRow : OpenClaim := { program := "ytcbabfndfikejaa", sum := "0608ffb3a4faf840e0848b542641759a92d584494d3fbe5c386f70987d6f175f", func := "loop.example/pub-contextsmerged/laws.FnMergeItself", spec := "fnMergeItself", unfollowed := true, recurses := true, apart := false }
def FnMergeItselfSaid : Prop := fnMergeItselfRow.holds Try.pinned (OpenSpec.ofChange fnMergeItselfSpec)

/-- ITS FALSE NEIGHBOUR: 'it returns false'. Refute it at one input. -/
def fnMergeItselfWrong : ChangeSpec := { name := "fnMergeItself", fn := fun _ => fun
  | [d1, d2, d3] => { results := [.lit (.bool false)], args := [d1, d2, d3] }
  | _ => none }
def FnMergeItselfWrongFalsely : Prop := fnMergeItselfRow.holds Try.pinned (OpenSpec.ofChange fnMergeItselfWrong)

/-- 'laws.FnMergeWild': WHATEVER THE INPUT: true; the input reads as it did. -/
def fnMergeWildSpec : ChangeSpec := { name := "fnMergeWild", fn := fun _ => fun
  | [d1, d2, d3, d4] => { results := [.lit (.bool true)], args := [d1, d2, d3, d4] }
  | _ => none }
def fnMergeWildRow : OpenClaim := { program := "ytcbabfndfikejaa", sum := "0608ffb3a4faf840e0848b542641759a92d584494d3fbe5c386f70987d6f175f", func := "loop.example/pub-contextsmerged/laws.FnMergeWild", spec := "fnMergeWild", unfollowed := true, recurses := true, apart := false }
def FnMergeWildSaid : Prop := fnMergeWildRow.holds Try.pinned (OpenSpec.ofChange fnMergeWildSpec)

/-- ITS FALSE NEIGHBOUR: 'it returns false'. Refute it at one input. -/
def fnMergeWildWrong : ChangeSpec := { name := "fnMergeWild", fn := fun _ => fun
  | [d1, d2, d3, d4] => { results := [.lit (.bool false)], args := [d1, d2, d3, d4] }
  | _ => none }
def FnMergeWildWrongFalsely : Prop := fnMergeWildRow.holds Try.pinned (OpenSpec.ofChange fnMergeWildWrong)

/-- 'laws.FnMergeAll': WHATEVER THE INPUT: true; the input reads as it did. -/
def fnMergeAllSpec : ChangeSpec := { name := "fnMergeAll", fn := fun _ => fun
  | [d1, d2, d3, d4] => { results := [.lit (.bool true)], args := [d1, d2, d3, d4] }
  | _ => none }
def fnMergeAllRow : OpenClaim := { program := "ytcbabfndfikejaa", sum := "0608ffb3a4faf840e0848b542641759a92d584494d3fbe5c386f70987d6f175f", func := "loop.example/pub-contextsmerged/laws.FnMergeAll", spec := "fnMergeAll", unfollowed := true, recurses := true, apart := false }
def FnMergeAllSaid : Prop := fnMergeAllRow.holds Try.pinned (OpenSpec.ofChange fnMergeAllSpec)

/-- ITS FALSE NEIGHBOUR: 'it returns false'. Refute it at one input. -/
def fnMergeAllWrong : ChangeSpec := { name := "fnMergeAll", fn := fun _ => fun
  | [d1, d2, d3, d4] => { results := [.lit (.bool false)], args := [d1, d2, d3, d4] }
  | _ => none }
def FnMergeAllWrongFalsely : Prop := fnMergeAllRow.holds Try.pinned (OpenSpec.ofChange fnMergeAllWrong)

/- THE SECOND FORM. 'bulk': how many values and letters a reading holds, each counted each time it is reached (what is shared counts as often as it is met; a slice's spare places count too). A statement '..UptoSaid' is the law's where the arguments, and the package variables that the reading takes, are together of bulk at most 1048576: NARROWER than '..Said'. Prove '..Said' where nothing that the law and all that it calls make is longer than what came in: it says more and counts as full. Else prove '..UptoSaid'. A law counts once. -/
mutual
def uptoBulk {H : Type} : DataW H → Nat
  | .lit (.string bytes) => bytes.length + 1
  | .lit _ => 1
  | .nil => 1
  | .ptr d => uptoBulk d + 1
  | .slice elems spare => uptoBulkAll elems + uptoBulkAll spare + 1
  | .agg parts => uptoBulkAll parts + 1
  | .iface _ d => uptoBulk d + 1
  | .map entries => uptoBulkEntries entries + 1
  | .held _ => 1
def uptoBulkAll {H : Type} : List (DataW H) → Nat
  | [] => 0
  | d :: r => uptoBulk d + uptoBulkAll r
def uptoBulkEntries {H : Type} : List (Lit × DataW H) → Nat
  | [] => 0
  | x :: r => uptoBulkEntry x + uptoBulkEntries r
def uptoBulkEntry {H : Type} : Lit × DataW H → Nat
  | (.string bytes, d) => bytes.length + uptoBulk d + 1
  | (_, d) => uptoBulk d + 1
 end
def uptoSmall : (H : Type) → List (DataW H) → Bool := fun _ ds => decide (uptoBulkAll ds ≤ 1048576)
def OpenSpec.upto (s : _root_.Go.ChangeSpec) : _root_.Go.OpenSpec := { _root_.Go.OpenSpec.ofChange s with cond := some uptoSmall }

/-- 'laws.FnMurmur', WHERE WHAT IT READS IS OF BULK AT MOST 1048576: true; the input reads as it did. -/
def fnMurmurUptoRow : OpenClaim := { program := "ytcbabfndfikejaa", sum := "0608ffb3a4faf840e0848b542641759a92d584494d3fbe5c386f70987d6f175f", func := "loop.example/pub-contextsmerged/laws.FnMurmur", spec := "fnMurmur", apart := false, narrowed := true }
def FnMurmurUptoSaid : Prop := fnMurmurUptoRow.holds Try.pinned (OpenSpec.upto fnMurmurSpec)

/-- 'laws.FnEmptyPath', WHERE WHAT IT READS IS OF BULK AT MOST 1048576: true; the input reads as it did. -/
def fnEmptyPathUptoRow : OpenClaim := { program := "ytcbabfndfikejaa", sum := "0608ffb3a4faf840e0848b542641759a92d584494d3fbe5c386f70987d6f175f", func := "loop.example/pub-contextsmerged/laws.FnEmptyPath", spec := "fnEmptyPath", unfollowed := true, recurses := true, apart := false, narrowed := true }
def FnEmptyPathUptoSaid : Prop := fnEmptyPathUptoRow.holds Try.pinned (OpenSpec.upto fnEmptyPathSpec)

/-- 'laws.FnEqual', WHERE WHAT IT READS IS OF BULK AT MOST 1048576: true; the input reads as it did. -/
def fnEqualUptoRow : OpenClaim := { program := "ytcbabfndfikejaa", sum := "0608ffb3a4faf840e0848b542641759a92d584494d3fbe5c386f70987d6f175f", func := "loop.example/pub-contextsmerged/laws.FnEqual", spec := "fnEqual", unfollowed := true, recurses := true, apart := false, narrowed := true }
def FnEqualUptoSaid : Prop := fnEqualUptoRow.holds Try.pinned (OpenSpec.upto fnEqualSpec)

/-- 'laws.FnHash', WHERE WHAT IT READS IS OF BULK AT MOST 1048576: true; the input reads as it did. -/
def fnHashUptoRow : OpenClaim := { program := "ytcbabfndfikejaa", sum := "0608ffb3a4faf840e0848b542641759a92d584494d3fbe5c386f70987d6f175f", func := "loop.example/pub-contextsmerged/laws.FnHash", spec := "fnHash", unfollowed := true, recurses := true, apart := false, narrowed := true }
def FnHashUptoSaid : Prop := fnHashUptoRow.holds Try.pinned (OpenSpec.upto fnHashSpec)

/-- 'laws.FnCommon', WHERE WHAT IT READS IS OF BULK AT MOST 1048576: true; the input reads as it did. -/
def fnCommonUptoRow : OpenClaim := { program := "ytcbabfndfikejaa", sum := "0608ffb3a4faf840e0848b542641759a92d584494d3fbe5c386f70987d6f175f", func := "loop.example/pub-contextsmerged/laws.FnCommon", spec := "fnCommon", unfollowed := true, recurses := true, apart := false, narrowed := true }
def FnCommonUptoSaid : Prop := fnCommonUptoRow.holds Try.pinned (OpenSpec.upto fnCommonSpec)

/-- 'laws.FnShare', WHERE WHAT IT READS IS OF BULK AT MOST 1048576: true; the input reads as it did. -/
def fnShareUptoRow : OpenClaim := { program := "ytcbabfndfikejaa", sum := "0608ffb3a4faf840e0848b542641759a92d584494d3fbe5c386f70987d6f175f", func := "loop.example/pub-contextsmerged/laws.FnShare", spec := "fnShare", unfollowed := true, recurses := true, apart := false, narrowed := true }
def FnShareUptoSaid : Prop := fnShareUptoRow.holds Try.pinned (OpenSpec.upto fnShareSpec)

/-- 'laws.FnMerge', WHERE WHAT IT READS IS OF BULK AT MOST 1048576: true; the input reads as it did. -/
def fnMergeUptoRow : OpenClaim := { program := "ytcbabfndfikejaa", sum := "0608ffb3a4faf840e0848b542641759a92d584494d3fbe5c386f70987d6f175f", func := "loop.example/pub-contextsmerged/laws.FnMerge", spec := "fnMerge", unfollowed := true, recurses := true, apart := false, narrowed := true }
def FnMergeUptoSaid : Prop := fnMergeUptoRow.holds Try.pinned (OpenSpec.upto fnMergeSpec)

/-- 'laws.FnMergeBack', WHERE WHAT IT READS IS OF BULK AT MOST 1048576: true; the input reads as it did. -/
def fnMergeBackUptoRow : OpenClaim := { program := "ytcbabfndfikejaa", sum := "0608ffb3a4faf840e0848b542641759a92d584494d3fbe5c386f70987d6f175f", func := "loop.example/pub-contextsmerged/laws.FnMergeBack", spec := "fnMergeBack", unfollowed := true, recurses := true, apart := false, narrowed := true }
def FnMergeBackUptoSaid : Prop := fnMergeBackUptoRow.holds Try.pinned (OpenSpec.upto fnMergeBackSpec)

/-- 'laws.FnMergeItself', WHERE WHAT IT READS IS OF BULK AT MOST 1048576: true; the input reads as it did. -/
def fnMergeItselfUptoRow : OpenClaim := { program := "ytcbabfndfikejaa", sum := "0608ffb3a4faf840e0848b542641759a92d584494d3fbe5c386f70987d6f175f", func := "loop.example/pub-contextsmerged/laws.FnMergeItself", spec := "fnMergeItself", unfollowed := true, recurses := true, apart := false, narrowed := true }
def FnMergeItselfUptoSaid : Prop := fnMergeItselfUptoRow.holds Try.pinned (OpenSpec.upto fnMergeItselfSpec)

/-- 'laws.FnMergeWild', WHERE WHAT IT READS IS OF BULK AT MOST 1048576: true; the input reads as it did. -/
def fnMergeWildUptoRow : OpenClaim := { program := "ytcbabfndfikejaa", sum := "0608ffb3a4faf840e0848b542641759a92d584494d3fbe5c386f70987d6f175f", func := "loop.example/pub-contextsmerged/laws.FnMergeWild", spec := "fnMergeWild", unfollowed := true, recurses := true, apart := false, narrowed := true }
def FnMergeWildUptoSaid : Prop := fnMergeWildUptoRow.holds Try.pinned (OpenSpec.upto fnMergeWildSpec)

/-- 'laws.FnMergeAll', WHERE WHAT IT READS IS OF BULK AT MOST 1048576: true; the input reads as it did. -/
def fnMergeAllUptoRow : OpenClaim := { program := "ytcbabfndfikejaa", sum := "0608ffb3a4faf840e0848b542641759a92d584494d3fbe5c386f70987d6f175f", func := "loop.example/pub-contextsmerged/laws.FnMergeAll", spec := "fnMergeAll", unfollowed := true, recurses := true, apart := false, narrowed := true }
def FnMergeAllUptoSaid : Prop := fnMergeAllUptoRow.holds Try.pinned (OpenSpec.upto fnMergeAllSpec)

end Rows
end Go.Proofs.Ytcbabfndfikejaa
