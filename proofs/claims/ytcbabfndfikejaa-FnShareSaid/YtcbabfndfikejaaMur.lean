/- The walks of the hash of numbers: what the package's three functions and the reference compute. No condition but the bound on the length. -/
import Derived.Test.YtcbabfndfikejaaChecked
import Derived.Test.YtcbabfndfikejaaLib
import Derived.WalkKit
import Derived.Outline
import Derived.WalkLawsBesides
import Derived.WalkSpells
namespace Go.Proofs.Ytcbabfndfikejaa
open Go.RowKit

def two32 : Int := 4294967296
/-- a number that is hashed, turned -/
def murK (v : Int) : Int :=
  bits BinOp.or IntKind.u32 (v % 4294967296 * 3432918353 % 4294967296 * 32768 % 4294967296) (v % 4294967296 * 3432918353 % 4294967296 / 131072) * 461845907 % 4294967296
/-- the hash behind a number -/
def murH (h k : Int) : Int :=
  (bits BinOp.or IntKind.u32 (bits BinOp.xor IntKind.u32 h k * 8192 % 4294967296) (bits BinOp.xor IntKind.u32 h k / 524288) * 5 + 3864292196) % 4294967296
def murU (h v : Int) : Int := murH (h % 4294967296) (murK v)
def murX (a : Int) (n : Int) : Int := bits BinOp.xor IntKind.u32 a n
def murE3 (a : Int) : Int := bits BinOp.xor IntKind.u32 a (a / 65536)
def murE2 (a : Int) : Int := murE3 (bits BinOp.xor IntKind.u32 a (a / 8192) * 3266489909 % 4294967296)
def murE1 (a : Int) : Int := murE2 (bits BinOp.xor IntKind.u32 a (a / 65536) * 2246822507 % 4294967296)
/-- the end of the hash -/
def murF (h n : Int) : Int := wrap64 (murE1 (bits BinOp.xor IntKind.u32 (h % 4294967296) (n % 4294967296 * 4 % 4294967296)))

theorem murmurInit_any (h : Int) (w : World) : Calls Try.prog 47 #[.int .i64 h] w fun e w' => e = .returned (.int .i64 h) ∧ w = w' := by
  go_enter Try.func47, Try.ntmps47
  go_wp2
  go_ret
  exact ⟨rfl, rfl⟩

theorem murmurUpdate_any (h v : Int) (w : World) : Calls Try.prog 48 #[.int .i64 h, .int .i64 v] w fun e w' => e = .returned (.int .i64 (murU h v)) ∧ w = w' := by
  go_enter Try.func48, Try.ntmps48
  go_wp2
  go_ret
  exact ⟨rfl, rfl⟩

theorem murmurFinish_any (h n : Int) (w : World) : Calls Try.prog 49 #[.int .i64 h, .int .i64 n] w fun e w' => e = .returned (.int .i64 (murF h n)) ∧ w = w' := by
  go_enter Try.func49, Try.ntmps49
  go_wp2
  go_ret
  exact ⟨rfl, rfl⟩

end Go.Proofs.Ytcbabfndfikejaa
