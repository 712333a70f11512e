/- The walks of At and Size of the reference. -/
import Derived.Test.YtfbnnbbjfjhkjaaTable
namespace Go.Proofs.Ytfbnnbbjfjhkjaa
open Go.RowKit

theorem mul_lt_of {a q : Nat} (ha : a ≤ 1048576) (hq : q ≤ 4) : a * q ≤ 4194304 := Nat.le_trans (Nat.mul_le_mul ha hq) (by decide)

def AtRel (w : World) (l : List (Nat × Int)) (q : Nat) (R : Int) (k : Nat) (vn vi : Value) (wr : World) : Prop :=
  ∃ (i m : Nat) (first : Bool) (p : Int), i + k = l.length ∧ vi = .int .i64 (i : Int) ∧ vn = .int .u64 (m : Int) ∧ m < 18446744073709551616 ∧ atR q m (l.drop i) = R ∧ WellFrom first p (l.drop i) ∧ Below w.heap.size w wr

set_option maxRecDepth 100000 in
set_option maxHeartbeats 1000000 in
theorem at_any (A : Option Addr) (n c q N : Nat) (l : List (Nat × Int)) (w : World) (hr : Rs w w.heap.size A n c l) (hw : WellFrom true 0 l) (hq : q ≤ 4) (hN : N < 18446744073709551616) :
    Calls Try.prog 24 #[.slice A n c, .int .u32 (q : Int), .int .u64 (N : Int)] w (IsPost w (.int .i32 (atR q N l))) := by
  have hn := hr.len
  have hcap := hr.cap
  have hbig := hr.big
  unfold maxLen at hbig
  obtain ⟨R, hR⟩ : ∃ R, atR q N l = R := ⟨_, rfl⟩
  rw [hR]
  have hst : Hid (AtRel w l q R l.length (.int .u64 (N : Int)) (.int .i64 0) w) := Lib.hid ⟨0, N, true, 0, by omega, rfl, rfl, hN, hR, hw, Below.refl _ _⟩
  have HN := Lib.hid hn
  clear hw hn hR hN
  go_enter Try.func24, Try.ntmps24
  go_wp2_with fail
  go_loopg [2, 12] l.length (fun k vn vi wr => AtRel w l q R k vn vi wr)
  case atStart => exact hst.out
  case round =>
    obtain ⟨i, m, first, p, hi, rfl, rfl, hm, he, hwf, hbel⟩ := hrel
    cases gk with
    | zero =>
      have hin : ¬ i < n := by have := HN.out; omega
      have e0 : l.drop i = [] := List.drop_eq_nil_of_le (by omega)
      rw [e0] at he
      obtain rfl : -1 = R := he
      have HB := Lib.hid hbel
      clear hbel e0 hi hst hwf hm
      go_wp2_with fail
      go_ret
      exact ⟨rfl, HB.out⟩
    | succ k =>
      have hin : i < n := by have := HN.out; omega
      have hil : i < l.length := by omega
      obtain ⟨g, o, rfl, hg, hc⟩ := hr.cells (by omega)
      have hx := (hc i hil).1
      have hv := (hc i hil).2
      rw [← hbel.cell (by exact hg)] at hx hv
      rw [List.drop_eq_getElem_cons hil] at he hwf
      generalize l[i] = x at *
      obtain ⟨⟨h1, h2, h3, h4, -⟩, hwf'⟩ := hwf
      obtain ⟨a, v⟩ := x
      simp only at *
      have hsz := mul_lt_of h2 hq
      have hz0 : ((a * q : Nat) : Int) = (a : Int) * (q : Int) := by simp
      have hz1 : (a : Int) * (q : Int) ≤ 4194304 := by rw [← hz0]; omega
      have hz2 : 0 ≤ (a : Int) * (q : Int) := by rw [← hz0]; omega
      obtain ⟨s, hs⟩ : ∃ s, a * q = s := ⟨_, rfl⟩
      have hmul : IntKind.u64.wrap ((a : Int) * (q : Int)) = (s : Int) := by rw [IntKind.wrap_u64, ← hz0, hs]; omega
      have e2 : (if m < s then v else atR q (m - s) (l.drop (i + 1))) = R := by rw [← hs]; exact he
      have hs2 : s ≤ 4194304 := by omega
      have HB := Lib.hid (hbel.alloc hbel.size (.cells #[.int .u32 (a : Int), .int .i32 v] 41))
      have HI := Lib.hid hi
      have HW := Lib.hid hwf'
      clear hbel hst hc he hz0 hz1 hz2 hsz hs hwf' h3 h4 h1
      by_cases hlt : m < s
      · rw [if_pos hlt] at e2
        subst e2
        clear hi
        go_wp2_with fail
        go_ret
        exact ⟨rfl, HB.out⟩
      · rw [if_neg hlt] at e2
        have HR : Hid (∀ W, Below w.heap.size w W → AtRel w l q R k (.int .u64 ((m - s : Nat) : Int)) (.int .i64 ((i + 1 : Nat) : Int)) W) := Lib.hid fun W hW =>
          ⟨i + 1, m - s, false, v, by have := HI.out; omega, rfl, rfl, by omega, e2, HW.out, hW⟩
        have hms : (m : Int) - (s : Int) = ((m - s : Nat) : Int) := by omega
        clear hi e2
        go_wp2_with fail
        go_roundg k
        case measure => omega
        case rel => exact HR.out _ HB.out

def SzRel (w : World) (l : List (Nat × Int)) (q R : Nat) (k : Nat) (vn vi : Value) (wr : World) : Prop :=
  ∃ (i m : Nat) (first : Bool) (p : Int), i + k = l.length ∧ vi = .int .i64 (i : Int) ∧ vn = .int .u64 (m : Int) ∧ m ≤ i * 4194304 ∧ m + sizeR q (l.drop i) = R ∧ WellFrom first p (l.drop i) ∧ Below w.heap.size w wr

set_option maxRecDepth 100000 in
set_option maxHeartbeats 1000000 in
theorem size_any (A : Option Addr) (n c q : Nat) (l : List (Nat × Int)) (w : World) (hr : Rs w w.heap.size A n c l) (hw : WellFrom true 0 l) (hl : l.length ≤ 1000) (hq : q ≤ 4) :
    Calls Try.prog 23 #[.slice A n c, .int .u32 (q : Int)] w (IsPost w (.int .u64 ((sizeR q l : Nat) : Int))) := by
  have hn := hr.len
  have hcap := hr.cap
  have hbig := hr.big
  unfold maxLen at hbig
  obtain ⟨R, hR⟩ : ∃ R, sizeR q l = R := ⟨_, rfl⟩
  rw [hR]
  have hst : Hid (SzRel w l q R l.length (.int .u64 0) (.int .i64 0) w) := Lib.hid ⟨0, 0, true, 0, by omega, rfl, rfl, by omega, by simpa using hR, hw, Below.refl _ _⟩
  have HN := Lib.hid hn
  clear hw hn hR
  go_enter Try.func23, Try.ntmps23
  go_wp2_with fail
  go_loopg [5, 10] l.length (fun k vn vi wr => SzRel w l q R k vn vi wr)
  case atStart => exact hst.out
  case round =>
    obtain ⟨i, m, first, p, hi, rfl, rfl, hm, he, hwf, hbel⟩ := hrel
    cases gk with
    | zero =>
      have hin : ¬ i < n := by have := HN.out; omega
      have e0 : l.drop i = [] := List.drop_eq_nil_of_le (by omega)
      rw [e0] at he
      obtain rfl : m = R := he
      have HB := Lib.hid hbel
      clear hbel e0 hi hst hwf
      go_wp2_with fail
      go_ret
      exact ⟨rfl, HB.out⟩
    | succ k =>
      have hin : i < n := by have := HN.out; omega
      have hil : i < l.length := by omega
      obtain ⟨g, o, rfl, hg, hc⟩ := hr.cells (by omega)
      have hx := (hc i hil).1
      have hv := (hc i hil).2
      rw [← hbel.cell (by exact hg)] at hx hv
      rw [List.drop_eq_getElem_cons hil] at he hwf
      generalize l[i] = x at *
      obtain ⟨⟨h1, h2, h3, h4, -⟩, hwf'⟩ := hwf
      obtain ⟨a, v⟩ := x
      simp only [sizeR] at *
      have hsz := mul_lt_of h2 hq
      have hz0 : ((a * q : Nat) : Int) = (a : Int) * (q : Int) := by simp
      obtain ⟨s, hs⟩ : ∃ s, a * q = s := ⟨_, rfl⟩
      have hmul : IntKind.u64.wrap ((a : Int) * (q : Int)) = (s : Int) := by rw [IntKind.wrap_u64, ← hz0, hs]; omega
      rw [hs] at he
      have hs2 : s ≤ 4194304 := by omega
      have hi2 : i < 1000 := by omega
      have HB := Lib.hid (hbel.alloc hbel.size (.cells #[.int .u32 (a : Int), .int .i32 v] 41))
      have HR : Hid (∀ W, Below w.heap.size w W → SzRel w l q R k (.int .u64 ((m + s : Nat) : Int)) (.int .i64 ((i + 1 : Nat) : Int)) W) := Lib.hid fun W hW =>
          ⟨i + 1, m + s, false, v, by omega, rfl, rfl, by omega, by omega, hwf', hW⟩
      have hms : m + s ≤ 4194304000 := by omega
      clear hbel hst hc he hz0 hsz hs hwf' h3 h4 h1 hi hm
      go_wp2_with fail
      go_roundg k
      case measure => omega
      case rel => exact HR.out _ HB.out
end Go.Proofs.Ytfbnnbbjfjhkjaa
