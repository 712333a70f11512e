/- The walk of zzFits1 of the laws. -/
import Derived.Test.YtfbnnbbjfjhkjaaInts
import Derived.Test.YtfbnnbbjfjhkjaaPcv
import Derived.BigQuiet
import Derived.Deep.QuietTactic
namespace Go.Proofs.Ytfbnnbbjfjhkjaa
open Go.RowKit
set_option linter.unusedVariables false

set_option maxRecDepth 100000 in
set_option maxHeartbeats 400000 in
theorem fits_yes (A0 A2 A3 : Option Addr) (n0 c0 n2 c2 n3 c3 : Nat) (sz q : Int) (w : World) (h0 : n0 ≤ 2147483647) (h2 : n2 ≤ 2147483647) (h3 : n3 ≤ 2147483647) :
    Calls Try.prog 25 #[.agg #[.slice A0 n0 c0, .int .i64 sz, .slice A2 n2 c2, .slice A3 n3 c3, .int .i64 q]] w (IsPost w (.bool true)) := by
  have HR := Lib.hid ((Below.refl w.heap.size w).alloc (Nat.le_refl _) (.cells #[.slice A0 n0 c0, .int .i64 sz, .slice A2 n2 c2, .slice A3 n3 c3, .int .i64 q] 49))
  go_enter Try.func25, Try.ntmps25
  go_wp2_with fail
  go_ret
  exact ⟨rfl, HR.out⟩

set_option maxRecDepth 100000 in
set_option maxHeartbeats 400000 in
theorem fits_no (A0 A2 A3 : Option Addr) (n0 c0 n2 c2 n3 c3 : Nat) (sz q : Int) (w : World) (h : ¬ (n0 ≤ 2147483647 ∧ n2 ≤ 2147483647 ∧ n3 ≤ 2147483647)) :
    Calls Try.prog 25 #[.agg #[.slice A0 n0 c0, .int .i64 sz, .slice A2 n2 c2, .slice A3 n3 c3, .int .i64 q]] w (IsPost w (.bool false)) := by
  have HR := Lib.hid ((Below.refl w.heap.size w).alloc (Nat.le_refl _) (.cells #[.slice A0 n0 c0, .int .i64 sz, .slice A2 n2 c2, .slice A3 n3 c3, .int .i64 q] 49))
  by_cases h0 : n0 ≤ 2147483647
  · by_cases h2 : n2 ≤ 2147483647
    · have h3 : ¬ n3 ≤ 2147483647 := fun h3 => h ⟨h0, h2, h3⟩
      clear h
      go_enter Try.func25, Try.ntmps25
      go_wp2_with fail
      go_ret
      exact ⟨rfl, HR.out⟩
    · clear h
      go_enter Try.func25, Try.ntmps25
      go_wp2_with fail
      go_ret
      exact ⟨rfl, HR.out⟩
  · clear h
    go_enter Try.func25, Try.ntmps25
    go_wp2_with fail
    go_ret
    exact ⟨rfl, HR.out⟩
end Go.Proofs.Ytfbnnbbjfjhkjaa
