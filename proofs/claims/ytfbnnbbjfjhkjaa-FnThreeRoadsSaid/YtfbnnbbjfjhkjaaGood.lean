/- The walk of Good of the reference. -/
import Derived.Test.YtfbnnbbjfjhkjaaRuns
import Derived.Test.YtfbnnbbjfjhkjaaWalk6
namespace Go.Proofs.Ytfbnnbbjfjhkjaa
open Go.RowKit

set_option maxRecDepth 100000 in
set_option maxHeartbeats 400000 in
theorem good_yes (q e : Nat) (w : World) (hq : q = 1 ∨ q = 2 ∨ q = 4) (he : e < 1152921504606846976) : Calls Try.prog 20 #[.int .u32 (q : Int), .int .u64 (e : Int)] w fun en w' => en = .returned (.bool true) ∧ w = w' := by
  have d : decide ((e : Int) < 1152921504606846976) = true := by simp; omega
  clear he
  rcases hq with rfl | rfl | rfl
  all_goals
    go_enter Try.func20, Try.ntmps20
    go_wp2_with fail
    go_ret
    exact ⟨rfl, rfl⟩

set_option maxRecDepth 100000 in
set_option maxHeartbeats 400000 in
theorem good_no (q e : Nat) (w : World) (h : ¬ ((q = 1 ∨ q = 2 ∨ q = 4) ∧ e < 1152921504606846976)) : Calls Try.prog 20 #[.int .u32 (q : Int), .int .u64 (e : Int)] w fun en w' => en = .returned (.bool false) ∧ w = w' := by
  by_cases h1 : q = 1
  · subst h1
    have d : decide ((e : Int) < 1152921504606846976) = false := by simp; omega
    clear h
    go_enter Try.func20, Try.ntmps20
    go_wp2_with fail
    go_ret
    exact ⟨rfl, rfl⟩
  · by_cases h2 : q = 2
    · subst h2
      have d : decide ((e : Int) < 1152921504606846976) = false := by simp; omega
      clear h
      go_enter Try.func20, Try.ntmps20
      go_wp2_with fail
      go_ret
      exact ⟨rfl, rfl⟩
    · by_cases h4 : q = 4
      · subst h4
        have d : decide ((e : Int) < 1152921504606846976) = false := by simp; omega
        clear h
        go_enter Try.func20, Try.ntmps20
        go_wp2_with fail
        go_ret
        exact ⟨rfl, rfl⟩
      · have d1 : ((q : Int) == 1) = false := by simp; omega
        have d2 : ((q : Int) == 2) = false := by simp; omega
        have d4 : ((q : Int) == 4) = false := by simp; omega
        clear h h1 h2 h4
        go_enter Try.func20, Try.ntmps20
        go_wp2_with fail
        go_ret
        exact ⟨rfl, rfl⟩
end Go.Proofs.Ytfbnnbbjfjhkjaa
