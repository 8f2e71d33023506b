/- Seat b6623438a: a function's text, cut behind its first statements; facts on nil. -/
import Derived.Test.Qxb6623438aSeatClone
import Derived.Test.Qxb6623438aSeatPlain
import Derived.Deep.DeepCutAuto
namespace Go.Proofs.Qxb6623438a.Seat
open Go.RowKit

/-- A function's text behind its first n statements. -/
def tail : Nat → Code → Code
  | 0, c => c
  | n + 1, .seq _ b => tail n b
  | _ + 1, c => c

theorem info22 : (Try.prog.info? 22).map (fun i => (i.zero, i.size, i.bytes)) = some (some (.slice none 0 0), 1, 24) := by kernel_rfl
theorem eqNil23 (a : Option Addr) (n c : Nat) (w : World) : (binOp .eql 23 (.slice a n c) (.slice none 0 0)).run Try.prog w = .ok (.bool a.isNone) w := Lib.run_eql_slice_nil w 23 22 a n c 0 0 Try.underlying23
theorem neNil23 (a : Option Addr) (n c : Nat) (w : World) : (binOp .neq 23 (.slice a n c) (.slice none 0 0)).run Try.prog w = .ok (.bool (!a.isNone)) w := run_neq_slice_nil_any w 23 22 a n c 0 0 Try.underlying23
end Go.Proofs.Qxb6623438a.Seat
