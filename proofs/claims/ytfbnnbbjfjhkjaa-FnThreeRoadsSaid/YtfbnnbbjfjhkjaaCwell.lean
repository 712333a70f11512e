/- The walk of Well of the reference function: a function is well. -/
import Derived.Test.YtfbnnbbjfjhkjaaFits
import Derived.Deep.LoopGhost
namespace Go.Proofs.Ytfbnnbbjfjhkjaa
open Go.RowKit
set_option linter.unusedVariables false

/-- The place ahead of place i. -/
def prevP (l : List Int) (i : Nat) : Int := (l[i - 1]?).getD 0
theorem prevP_succ {l : List Int} {i : Nat} (h : i < l.length) : prevP l (i + 1) = l[i] := by
  unfold prevP
  rw [Nat.add_sub_cancel, List.getElem?_eq_getElem h]
  rfl
/-- The instruction at place i stands well. -/
def okP (q : Int) (l : List Int) (i : Nat) : Prop := ∀ h : i < l.length, l[i].tmod q = 0 ∧ (i = 0 → l[i] = 0) ∧ (0 < i → prevP l i ≤ l[i])
/-- A function is well. -/
structure CodeWell (l : List Int) (sz q : Int) (n2 n3 : Nat) : Prop where
  quantum : q = 1 ∨ q = 2 ∨ q = 4
  some_ : 0 < l.length
  len2 : n2 = l.length
  len3 : n3 = l.length
  each : ∀ i, okP q l i
  size : sz.tmod q = 0
  long : prevP l l.length < sz
  most : sz ≤ 1073741824

/-- A bool is handed back, and where it is true the fact stands. -/
def TellPost (w : World) (P : Prop) (en : Ending) (w' : World) : Prop := ∃ b, en = .returned (.bool b) ∧ (b = true → P) ∧ Below w.heap.size w w'

def CwRel (W : World) (q : Int) (l : List Int) (k : Nat) (vi : Value) (wr : World) : Prop :=
  ∃ i : Nat, i + k = l.length ∧ vi = .int .i64 (i : Int) ∧ (∀ j, j < i → okP q l j) ∧ W = wr

set_option maxRecDepth 100000 in
set_option maxHeartbeats 4000000 in
theorem codeWell_any (A0 A2 A3 : Option Addr) (n0 c0 n2 c2 n3 c3 : Nat) (sz q : Int) (l : List Int) (w : World) (hl : Is w w.heap.size A0 n0 c0 .i64 l)  :
    Calls Try.prog 26 #[.agg #[.slice A0 n0 c0, .int .i64 sz, .slice A2 n2 c2, .slice A3 n3 c3, .int .i64 q]] w (TellPost w (CodeWell l sz q n2 n3)) := by
  have hbig := hl.big
  have hcap := hl.cap
  have hlen := hl.len
  unfold maxLen at hbig
  have hB : Below w.heap.size w (w.alloc (.cells #[.slice A0 n0 c0, .int .i64 sz, .slice A2 n2 c2, .slice A3 n3 c3, .int .i64 q] 49)) := (Below.refl w.heap.size w).alloc (Nat.le_refl _) _
  have hlW := hl.below hB
  have HB := Lib.hid hB
  have HL := Lib.hid hlen
  clear hB hl hlen
  by_cases hq : q = 1 ∨ q = 2 ∨ q = 4
  · have HQ := Lib.hid hq
    have hz : (q == 0) = false := by simp; omega
    have hqb : 1 ≤ q ∧ q ≤ 4 := by omega
    obtain ⟨hqb1, hqb4⟩ := hqb
    replace hq : ((q != 1) = false) ∨ ((q != 1) = true ∧ (q != 2) = false) ∨ ((q != 1) = true ∧ (q != 2) = true ∧ (q != 4) = false) := by
      rcases hq with rfl | rfl | rfl
      · exact .inl rfl
      · exact .inr (.inl ⟨rfl, rfl⟩)
      · exact .inr (.inr ⟨rfl, rfl, rfl⟩)
    by_cases k0 : n0 = 0
    · have d0 : ((n0 : Int) == 0) = true := by simp; omega
      have HK := Lib.hid k0
      clear k0 hlW
      rcases hq with q1 | ⟨q1, q2⟩ | ⟨q1, q2, q4⟩
      all_goals
        go_enter Try.func26, Try.ntmps26
        go_wp2_with fail
        go_ret
        exact ⟨false, rfl, (fun h => by cases h), HB.out⟩
    · have d0 : ((n0 : Int) == 0) = false := by simp; omega
      by_cases k2 : n2 = n0
      · have d2 : ((n2 : Int) != (n0 : Int)) = false := by simp; omega
        by_cases k3 : n3 = n0
        · have d3 : ((n3 : Int) != (n0 : Int)) = false := by simp; omega
          have hst : Hid (CwRel (w.alloc (.cells #[.slice A0 n0 c0, .int .i64 sz, .slice A2 n2 c2, .slice A3 n3 c3, .int .i64 q] 49)) q l l.length (.int .i64 0) (w.alloc (.cells #[.slice A0 n0 c0, .int .i64 sz, .slice A2 n2 c2, .slice A3 n3 c3, .int .i64 q] 49))) := Lib.hid ⟨0, by omega, rfl, fun j hj => by omega, rfl⟩
          have HK2 := Lib.hid k2
          have HK3 := Lib.hid k3
          clear k2 k3
          rcases hq with q1 | ⟨q1, q2⟩ | ⟨q1, q2, q4⟩
          all_goals
            go_enter Try.func26, Try.ntmps26
            go_wp2_with fail
            go_loopg [45] l.length (fun k vi wr => CwRel (w.alloc (.cells #[.slice A0 n0 c0, .int .i64 sz, .slice A2 n2 c2, .slice A3 n3 c3, .int .i64 q] 49)) _ l k vi wr)
            case atStart => exact hst.out
            case round =>
              obtain ⟨i, hi, rfl, hok, rfl⟩ := hrel
              cases gk with
              | zero =>
                have hin : ¬ i < n0 := by have := HL.out; omega
                have hall : ∀ j, okP q l j := fun j => by
                  rcases Nat.lt_or_ge j i with h1 | h1
                  · exact hok j h1
                  · exact fun h => absurd h (by omega)
                have hlen := HL.out
                obtain ⟨g, o, rfl, hgB, hc⟩ := hlW.cells (by omega)
                obtain ⟨n1, rfl⟩ : ∃ n1, n0 = n1 + 1 := ⟨n0 - 1, by omega⟩
                have hlast := hc n1 (by omega)
                have hpp : prevP l l.length = l[n1] := (congrArg (prevP l) hlen).trans (prevP_succ (by omega))
                have HW : Hid (sz.tmod q = 0 → l[n1] < sz → sz ≤ 1073741824 → CodeWell l sz q n2 n3) := Lib.hid fun a1 a2 a3 =>
                  ⟨HQ.out, by omega, by have := HK2.out; omega, by have := HK3.out; omega, hall, a1, by rw [hpp]; exact a2, a3⟩
                clear hc hpp hall hok
                generalize l[n1] = z at *
                have hw1 : IntKind.i64.wrap ((n1 : Int) + 1 - 1) = (n1 : Int) := by rw [IntKind.wrap_i64]; omega
                have hw2 : IntKind.i64.wrap (n1 : Int) = (n1 : Int) := by rw [IntKind.wrap_i64]; omega
                have hb3 : (0 : Int) ≤ (n1 : Int) := by omega
                have hb4 : (n1 : Int) < (n1 : Int) + 1 := by omega
                have HI := Lib.hid hi
                have HLN := Lib.hid hlen
                clear hi hlen hlW hst
                by_cases m1 : sz.tmod q = 0
                · have t1 : (sz.tmod q == 0) = true := by simpa using m1
                  by_cases m2 : z < sz
                  · have t2 : decide (z < sz) = true := by simpa using m2
                    by_cases m3 : sz ≤ 1073741824
                    · have t3 : decide (sz ≤ 1073741824) = true := by simpa using m3
                      have HWW := Lib.hid (HW.out m1 m2 m3)
                      clear m1 m2 m3
                      go_wp2_with fail
                      go_quiet (fail)
                      go_wp2_with fail
                      go_ret
                      exact ⟨true, rfl, fun _ => HWW.out, below_drewN HB.out _⟩
                    · have t3 : decide (sz ≤ 1073741824) = false := by simpa using m3
                      clear m1 m2 m3
                      go_wp2_with fail
                      go_quiet (fail)
                      go_wp2_with fail
                      go_ret
                      exact ⟨false, rfl, (fun h => by cases h), below_drewN HB.out _⟩
                  · have t2 : decide (z < sz) = false := by simpa using m2
                    clear m1 m2
                    go_wp2_with fail
                    go_quiet (fail)
                    go_wp2_with fail
                    go_ret
                    exact ⟨false, rfl, (fun h => by cases h), below_drewN HB.out _⟩
                · have t1 : (sz.tmod q == 0) = false := by simpa using m1
                  clear m1
                  go_wp2_with fail
                  go_quiet (fail)
                  go_wp2_with fail
                  go_ret
                  exact ⟨false, rfl, (fun h => by cases h), below_drewN HB.out _⟩
              | succ k =>
                have hil : i < l.length := by omega
                have hin : i < n0 := by have := HL.out; omega
                obtain ⟨g, o, rfl, hgB, hc⟩ := hlW.cells (by omega)
                have hx := hc i hil
                have hnext : okP q l i → ∀ j, j < i + 1 → okP q l j := fun h j hj => by
                  rcases Nat.lt_or_ge j i with h1 | h1
                  · exact hok j h1
                  · obtain rfl : j = i := by omega
                    exact h
                have hnext' : l[i].tmod q = 0 ∧ (i = 0 → l[i] = 0) ∧ (0 < i → prevP l i ≤ l[i]) → ∀ j, j < i + 1 → okP q l j := fun h => hnext fun _ => h
                have hprev : ∀ i', i = i' + 1 → (w.alloc (.cells #[.slice (some ⟨g, o, none⟩) n0 c0, .int .i64 sz, .slice A2 n2 c2, .slice A3 n3 c3, .int .i64 q] 49)).cell? ⟨g, o + i', none⟩ = some (.int .i64 (prevP l i)) := fun i' e => by
                  subst e
                  rw [prevP_succ (by omega)]
                  exact hc i' (by omega)
                clear hnext hc hok hlW hst
                generalize l[i] = x at *
                have HI := Lib.hid hi
                have HN := Lib.hid hnext'
                have HP := Lib.hid hprev
                clear hi hnext' hprev
                by_cases m : x.tmod q = 0
                · have tm : (x.tmod q != 0) = false := by simpa using m
                  cases i with
                  | zero =>
                    simp only [Nat.add_zero] at hx
                    rw [show ((0 : Nat) : Int) = 0 from rfl]
                    by_cases m2 : x = 0
                    · have t2 : (x != 0) = false := by simpa using m2
                      have HR : Hid (CwRel (w.alloc (.cells #[.slice (some ⟨g, o, none⟩) n0 c0, .int .i64 sz, .slice A2 n2 c2, .slice A3 n3 c3, .int .i64 q] 49)) q l k (.int .i64 ((0 : Int) + 1)) (w.alloc (.cells #[.slice (some ⟨g, o, none⟩) n0 c0, .int .i64 sz, .slice A2 n2 c2, .slice A3 n3 c3, .int .i64 q] 49))) := Lib.hid ⟨1, by have := HI.out; omega, rfl, HN.out ⟨m, fun _ => m2, fun h => by omega⟩, rfl⟩
                      clear m m2
                      go_wp2_with fail
                      go_roundg k
                      case measure => omega
                      case rel => exact HR.out
                    · have t2 : (x != 0) = true := by simpa using m2
                      clear m m2
                      go_wp2_with fail
                      go_ret
                      exact ⟨false, rfl, (fun h => by cases h), HB.out⟩
                  | succ i =>
                    have hp := HP.out i rfl
                    generalize prevP l (i + 1) = p at *
                    have hw2 : IntKind.i64.wrap (i : Int) = (i : Int) := by rw [IntKind.wrap_i64]; omega
                    by_cases m2 : x < p
                    · clear m
                      go_wp2_with fail
                      go_ret
                      exact ⟨false, rfl, (fun h => by cases h), HB.out⟩
                    · have HR : Hid (CwRel (w.alloc (.cells #[.slice (some ⟨g, o, none⟩) n0 c0, .int .i64 sz, .slice A2 n2 c2, .slice A3 n3 c3, .int .i64 q] 49)) q l k (.int .i64 ((i : Int) + 1 + 1)) (w.alloc (.cells #[.slice (some ⟨g, o, none⟩) n0 c0, .int .i64 sz, .slice A2 n2 c2, .slice A3 n3 c3, .int .i64 q] 49))) := Lib.hid ⟨i + 1 + 1, by have := HI.out; omega, rfl, HN.out ⟨m, fun h => by omega, fun _ => by omega⟩, rfl⟩
                      clear m
                      go_wp2_with fail
                      go_roundg k
                      case measure => omega
                      case rel => exact HR.out
                · have tm : (x.tmod q != 0) = true := by simpa using m
                  clear m
                  go_wp2_with fail
                  go_ret
                  exact ⟨false, rfl, (fun h => by cases h), HB.out⟩
        · have d3 : ((n3 : Int) != (n0 : Int)) = true := by simp; omega
          clear k0 k2 k3 hlW
          rcases hq with q1 | ⟨q1, q2⟩ | ⟨q1, q2, q4⟩
          all_goals
            go_enter Try.func26, Try.ntmps26
            go_wp2_with fail
            go_ret
            exact ⟨false, rfl, (fun h => by cases h), HB.out⟩
      · have d2 : ((n2 : Int) != (n0 : Int)) = true := by simp; omega
        clear k0 k2 hlW
        rcases hq with q1 | ⟨q1, q2⟩ | ⟨q1, q2, q4⟩
        all_goals
          go_enter Try.func26, Try.ntmps26
          go_wp2_with fail
          go_ret
          exact ⟨false, rfl, (fun h => by cases h), HB.out⟩
  · have d1 : (q != 1) = true := by simp; omega
    have d2 : (q != 2) = true := by simp; omega
    have d4 : (q != 4) = true := by simp; omega
    clear hq hlW
    go_enter Try.func26, Try.ntmps26
    go_wp2_with fail
    go_ret
    exact ⟨false, rfl, (fun h => by cases h), HB.out⟩
end Go.Proofs.Ytfbnnbbjfjhkjaa
