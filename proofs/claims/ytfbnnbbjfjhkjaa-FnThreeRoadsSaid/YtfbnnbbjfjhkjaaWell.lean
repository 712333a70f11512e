/- The walk of Well of the reference: are runs those of a table? -/
import Derived.Test.YtfbnnbbjfjhkjaaRuns
import Derived.Test.YtfbnnbbjfjhkjaaPcv
import Derived.BigQuiet
import Derived.Deep.QuietTactic
namespace Go.Proofs.Ytfbnnbbjfjhkjaa
open Go.RowKit

def WlRel (w : World) (l : List (Nat × Int)) (k : Nat) (vi : Value) (wr : World) : Prop :=
  ∃ i : Nat, i + k = l.length ∧ vi = .int .i64 (i : Int) ∧ (∀ j, j < i → okAt l j) ∧ Below w.heap.size w wr

set_option maxRecDepth 100000 in
set_option maxHeartbeats 400000 in
theorem well_any (A : Option Addr) (n c : Nat) (l : List (Nat × Int)) (b : Bool) (w : World) (hr : Rs w w.heap.size A n c l) (hb : b = true ↔ WellL l) : Calls Try.prog 19 #[.slice A n c] w (IsPost w (.bool b)) := by
  have hn := hr.len
  have hbig := hr.big
  have hcap := hr.cap
  unfold maxLen at hbig
  have HN := Lib.hid hn
  have HB := Lib.hid hb
  have hst : Hid (WlRel w l l.length (.int .i64 0) w) := ⟨0, by omega, rfl, fun j hj => by omega, Below.refl _ _⟩
  clear hn hb
  go_enter Try.func19, Try.ntmps19
  go_wp2_with fail
  go_loopg [7] l.length (fun k vi wr => WlRel w l k vi wr)
  case atStart => exact hst
  case round =>
    obtain ⟨i, hi, rfl, hok, hbel⟩ := hrel
    cases gk with
    | zero =>
      have hin : ¬ i < n := by have := HN.out; omega
      have hall : ∀ j, okAt l j := fun j => by
        rcases Nat.lt_or_ge j i with h1 | h1
        · exact hok j h1
        · exact fun h => absurd h (by omega)
      have HBel := Lib.hid hbel
      have hlen : l.length = n := HN.out
      by_cases h1000 : n ≤ 1000
      · obtain rfl : b = true := HB.out.2 ⟨hall, by omega⟩
        have d : decide ((n : Int) ≤ 1000) = true := by simp; omega
        clear hi hbel hall hok hlen
        go_wp2_with fail
        go_ret
        exact ⟨rfl, HBel.out⟩
      · obtain rfl : b = false := by
          cases b with
          | false => rfl
          | true => have := (HB.out.1 rfl).2; omega
        have d : decide ((n : Int) ≤ 1000) = false := by simp; omega
        clear hi hbel hall hok hlen
        go_wp2_with fail
        go_ret
        exact ⟨rfl, HBel.out⟩
    | succ k =>
      have hin : i < n := by have := HN.out; omega
      have hil : i < l.length := by omega
      obtain ⟨g, o, rfl, hg, hc⟩ := hr.cells (by omega)
      have hq := (hc i hil).1
      have hv := (hc i hil).2
      rw [← hbel.cell (by exact hg)] at hq hv
      have hfail : ¬ okAt l i → b = false := fun h => by
        cases b with
        | false => rfl
        | true => exact absurd ((HB.out.1 rfl).1 i) h
      have hnext : okAt l i → ∀ j, j < i + 1 → okAt l j := fun h j hj => by
        rcases Nat.lt_or_ge j i with h1 | h1
        · exact hok j h1
        · obtain rfl : j = i := by omega
          exact h
      have hfail' : ¬ okRun (decide (i = 0)) (prevV l i) l[i] → b = false := fun h => hfail fun h' => h (h' hil)
      have hnext' : okRun (decide (i = 0)) (prevV l i) l[i] → ∀ j, j < i + 1 → okAt l j := fun h => hnext fun _ => h
      have hprev : ∀ i', i = i' + 1 → w.cell? ⟨g, o + i' * 2 + 1, none⟩ = some (.int .i32 (prevV l i)) := fun i' e => by
        subst e
        rw [prevV_succ (by omega)]
        exact (hc i' (by omega)).2
      clear hfail hnext
      generalize l[i] = x at *
      have HBel := Lib.hid hbel
      have HI := Lib.hid hi
      have HF := Lib.hid hfail'
      have HX := Lib.hid hnext'
      have HP := Lib.hid hprev
      clear hi hbel hc hr hfail' hnext' hok hprev HN
      by_cases c1 : (x.1 : Int) < 1
      · have d1 : decide ((x.1 : Int) < 1) = true := by simpa using c1
        obtain rfl := HF.out fun h => by have := h.1; omega
        go_wp2_with fail
        go_quiet (fail)
        go_wp2_with fail
        go_ret
        exact ⟨rfl, below_drewN (HBel.out.alloc HBel.out.size _) _⟩
      · have d1 : decide ((x.1 : Int) < 1) = false := by simpa using c1
        by_cases c2 : 1048576 < (x.1 : Int)
        · have d2 : decide (1048576 < (x.1 : Int)) = true := by simpa using c2
          obtain rfl := HF.out fun h => by have := h.2.1; omega
          go_wp2_with fail
          go_quiet (fail)
          go_wp2_with fail
          go_ret
          exact ⟨rfl, below_drewN (HBel.out.alloc HBel.out.size _) _⟩
        · have d2 : decide (1048576 < (x.1 : Int)) = false := by simpa using c2
          by_cases c3 : x.2 < -1048576
          · have d3 : decide (x.2 < -1048576) = true := by simpa using c3
            obtain rfl := HF.out fun h => by have := h.2.2.1; omega
            go_wp2_with fail
            go_quiet (fail)
            go_wp2_with fail
            go_ret
            exact ⟨rfl, below_drewN (HBel.out.alloc HBel.out.size _) _⟩
          · have d3 : decide (x.2 < -1048576) = false := by simpa using c3
            by_cases c4 : 1048576 < x.2
            · have d4 : decide (1048576 < x.2) = true := by simpa using c4
              obtain rfl := HF.out fun h => by have := h.2.2.2.1; omega
              go_wp2_with fail
              go_quiet (fail)
              go_wp2_with fail
              go_ret
              exact ⟨rfl, below_drewN (HBel.out.alloc HBel.out.size _) _⟩
            · have d4 : decide (1048576 < x.2) = false := by simpa using c4
              cases i with
              | zero =>
                simp only [Nat.zero_mul, Nat.add_zero] at hq hv
                rw [show ((0 : Nat) : Int) = 0 from rfl]
                have HR : Hid (∀ W, Below w.heap.size w W → WlRel w l k (.int .i64 ((0 : Int) + 1)) W) := Lib.hid fun W hW => ⟨1, by have := HI.out; omega, rfl, HX.out ⟨by omega, by omega, by omega, by omega, fun h => by simp at h⟩, hW⟩
                clear HF HX HI HP c1 c2 c3 c4
                go_wp2_with fail
                go_quiet (fail)
                go_wp2_with fail
                go_roundg k
                case measure => omega
                case rel => exact HR.out _ (below_drewN (HBel.out.alloc HBel.out.size _) _)
              | succ i =>
                have hp0 := HP.out i rfl
                rw [← HBel.out.cell (by exact hg)] at hp0
                generalize prevV l (i + 1) = p at *
                have hp1 : ∀ ob, (wr.alloc ob).cell? ⟨g, o + i * 2 + 1, none⟩ = some (.int .i32 p) := fun ob => (World.cell?_alloc_lt wr ob _ (Nat.lt_of_lt_of_le hg HBel.out.size)).trans hp0
                have hb2 : ((i : Int) < (n : Int)) := by omega
                have hb3 : (0 : Int) ≤ (i : Int) := by omega
                have hwi : IntKind.i64.wrap (i : Int) = (i : Int) := by rw [IntKind.wrap_i64]; omega
                by_cases c5 : p = x.2
                · have d5 : (p == x.2) = true := by simpa using c5
                  obtain rfl := HF.out fun h => h.2.2.2.2 (by simp) c5
                  have HC5 := Lib.hid c5
                  clear HF HX HI HP c5 c1 c2 c3 c4
                  go_wp2_with fail
                  go_quiet (fail)
                  go_wp2_with fail
                  go_ret
                  exact ⟨rfl, below_drewN (HBel.out.alloc HBel.out.size _) _⟩
                · have d5 : (p == x.2) = false := by simpa using c5
                  have HR : Hid (∀ W, Below w.heap.size w W → WlRel w l k (.int .i64 ((i : Int) + 1 + 1)) W) := Lib.hid fun W hW => ⟨i + 1 + 1, by have := HI.out; omega, rfl, HX.out ⟨by omega, by omega, by omega, by omega, fun _ => c5⟩, hW⟩
                  clear HF HX HI HP c5 c1 c2 c3 c4
                  go_wp2_with fail
                  go_quiet (fail)
                  go_wp2_with fail
                  go_roundg k
                  case measure => omega
                  case rel => exact HR.out _ (below_drewN (HBel.out.alloc HBel.out.size _) _)
end Go.Proofs.Ytfbnnbbjfjhkjaa
