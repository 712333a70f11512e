/- The relation of the loop of the law FnWalk. -/
import Derived.Test.YtfbnnbbjfjhkjaaTabv
namespace Go.Proofs.Ytfbnnbbjfjhkjaa
open Go.RowKit
def FwRel (w : World) (l : List (Nat × Int)) (behind : List UInt8) (_q : Nat) (k : Nat) (vp vpl vv vi : Value) (wr : World) : Prop :=
  ∃ (i : Nat) (A : Option Addr) (n c : Nat) (pc p : Int) (first : Bool), i + k = l.length ∧ vi = .int .i64 (i : Int) ∧ vp = .slice A n c ∧ vpl = .int .u64 pc ∧ vv = .int .i32 p ∧
    Bs wr wr.heap.size A n c (tab (ents p (l.drop i)) ++ 0 :: behind) ∧ WellFrom first p (l.drop i) ∧ first = decide (i = 0) ∧ -1048576 ≤ p ∧ p ≤ 1048576 ∧ n ≤ 20000000 ∧ Below w.heap.size w wr
end Go.Proofs.Ytfbnnbbjfjhkjaa
