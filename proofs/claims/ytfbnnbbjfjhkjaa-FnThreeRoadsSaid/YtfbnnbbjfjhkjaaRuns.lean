/- Plain facts on runs: a slice of runs in memory, what a table of runs is, when runs are well. -/
import Derived.Test.YtfbnnbbjfjhkjaaMem
import Derived.Test.YtfbnnbbjfjhkjaaVal
namespace Go.Proofs.Ytfbnnbbjfjhkjaa
open Go.RowKit

/-- Runs in memory: each has two cells, its quanta and its value. -/
structure Rs (w : World) (B : Nat) (A : Option Addr) (n c : Nat) (l : List (Nat × Int)) : Prop where
  len : l.length = n
  cap : n ≤ c
  big : c ≤ maxLen
  cells : 0 < n → ∃ g o, A = some ⟨g, o, none⟩ ∧ g < B ∧ ∀ j (hj : j < l.length), w.cell? ⟨g, o + j * 2, none⟩ = some (.int .u32 (l[j].1 : Int)) ∧ w.cell? ⟨g, o + j * 2 + 1, none⟩ = some (.int .i32 l[j].2)

theorem Rs.keep {w w' : World} {B n c : Nat} {A : Option Addr} {l : List (Nat × Int)} (h : Rs w B A n c l) (hk : ∀ p : Addr, p.block < B → w'.cell? p = w.cell? p) : Rs w' B A n c l :=
  ⟨h.len, h.cap, h.big, fun hn => by
    obtain ⟨g, o, e, hb, hc⟩ := h.cells hn
    exact ⟨g, o, e, hb, fun j hj => ⟨(hk _ hb).trans (hc j hj).1, (hk _ hb).trans (hc j hj).2⟩⟩⟩
theorem Rs.below {w w' : World} {B n c : Nat} {A : Option Addr} {l : List (Nat × Int)} (h : Rs w B A n c l) (hb : Below B w w') : Rs w' B A n c l := h.keep fun _ hp => hb.cell hp
theorem Rs.more {w : World} {B B' n c : Nat} {A : Option Addr} {l : List (Nat × Int)} (h : Rs w B A n c l) (hB : B ≤ B') : Rs w B' A n c l :=
  ⟨h.len, h.cap, h.big, fun hn => by
    obtain ⟨g, o, e, hb, hc⟩ := h.cells hn
    exact ⟨g, o, e, by omega, hc⟩⟩

/-- A run is well behind the value p of the run before (none: it is the first). -/
def okRun (first : Bool) (p : Int) (x : Nat × Int) : Prop := 1 ≤ x.1 ∧ x.1 ≤ 1048576 ∧ -1048576 ≤ x.2 ∧ x.2 ≤ 1048576 ∧ (first = false → p ≠ x.2)
/-- The value of the run ahead of place i. -/
def prevV (l : List (Nat × Int)) (i : Nat) : Int := ((l[i - 1]?).getD (0, 0)).2
theorem prevV_succ {l : List (Nat × Int)} {i : Nat} (h : i < l.length) : prevV l (i + 1) = l[i].2 := by
  unfold prevV
  rw [Nat.add_sub_cancel, List.getElem?_eq_getElem h]
  rfl
/-- The run at place i is well. -/
def okAt (l : List (Nat × Int)) (i : Nat) : Prop := ∀ h : i < l.length, okRun (decide (i = 0)) (prevV l i) l[i]
def WellL (l : List (Nat × Int)) : Prop := (∀ i, okAt l i) ∧ l.length ≤ 1000

end Go.Proofs.Ytfbnnbbjfjhkjaa
