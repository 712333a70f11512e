/- The memory of ZZTable in its loop. -/
import Derived.Test.YtfbnnbbjfjhkjaaFp
namespace Go.Proofs.Ytfbnnbbjfjhkjaa
open Go.RowKit
set_option linter.unusedVariables false

/-- A call that hands back these bytes. -/
def BytesPost (w : World) (T : List UInt8) (en : Ending) (w' : World) : Prop :=
  ∃ A n c, en = .returned (.slice A n c) ∧ Bs w' w'.heap.size A n c T ∧ Below w.heap.size w w'

def lastAt (H i : Nat) : Option Addr := if i = 0 then none else some ⟨H + 3 + (i - 1), 0, none⟩
def ZtSt (w : World) (pcs : List Int) (v6 v7 : Value) (i : Nat) (wr : World) : Prop :=
  wr.heap.size = w.heap.size + 3 + i ∧ Blk wr w.heap.size 47 #[v6] ∧ Blk wr (w.heap.size + 1) 47 #[v7] ∧ Blk wr (w.heap.size + 1 + 1) 76 #[.pointer (if 0 < i then some ⟨w.heap.size + 3, 0, none⟩ else none)] ∧
  (∀ j (h : j < pcs.length), j < i → Blk wr (w.heap.size + 3 + j) 78 #[.int .i64 pcs[j], .pointer (if j + 1 < i then some ⟨w.heap.size + 3 + (j + 1), 0, none⟩ else none), .int .i64 (j : Int)]) ∧ Below w.heap.size w wr

theorem ZtSt.first {w wr : World} {pcs : List Int} {v6 v7 : Value} (h : ZtSt w pcs v6 v7 0 wr) (x : Int) (hx : ∀ h : 0 < pcs.length, pcs[0] = x) :
    ZtSt w pcs v6 v7 1 ((wr.alloc (.cells #[.int .i64 x, .pointer none, .int .i64 0] 78)).setCell ⟨w.heap.size + 1 + 1, 0, none⟩ (.pointer (some ⟨wr.heap.size, 0, none⟩))) := by
  obtain ⟨h1, h2, h3, h4, h5, h6⟩ := h
  have hs : wr.heap.size = w.heap.size + 3 := by omega
  have b1 := h6.alloc h6.size (.cells #[.int .i64 x, .pointer none, .int .i64 0] 78)
  have hb : w.heap.size ≤ w.heap.size + 1 + 1 := by omega
  refine ⟨by simp [World.setCell]; omega, (h2.alloc _).far (by show w.heap.size ≠ w.heap.size + 1 + 1; omega) _, (h3.alloc _).far (by show w.heap.size + 1 ≠ w.heap.size + 1 + 1; omega) _, ?_, ?_, b1.setCell (p := ⟨w.heap.size + 1 + 1, 0, none⟩) hb _⟩
  · have := (h4.alloc (.cells #[.int .i64 x, .pointer none, .int .i64 0] 78)).set_ 0 (.pointer (some ⟨wr.heap.size, 0, none⟩))
    rw [hs] at this ⊢
    exact this
  · intro j hj hj1
    obtain rfl : j = 0 := by omega
    have := (Blk.new wr 78 #[.int .i64 x, .pointer none, .int .i64 0]).far (p := ⟨w.heap.size + 1 + 1, 0, none⟩) (by show wr.heap.size ≠ w.heap.size + 1 + 1; omega) (.pointer (some ⟨wr.heap.size, 0, none⟩))
    rw [hx hj]
    rw [hs] at this ⊢
    exact this
theorem ZtSt.next {w wr : World} {pcs : List Int} {v6 v7 : Value} {i : Nat} (h : ZtSt w pcs v6 v7 (i + 1) wr) (x : Int) (hx : ∀ h : i + 1 < pcs.length, pcs[i + 1] = x) :
    ZtSt w pcs v6 v7 (i + 1 + 1) ((wr.alloc (.cells #[.int .i64 x, .pointer none, .int .i64 ((i + 1 : Nat) : Int)] 78)).setCell ⟨w.heap.size + 3 + i, 1, none⟩ (.pointer (some ⟨wr.heap.size, 0, none⟩))) := by
  obtain ⟨h1, h2, h3, h4, h5, h6⟩ := h
  have hs : wr.heap.size = w.heap.size + 3 + (i + 1) := by omega
  have b1 := h6.alloc h6.size (.cells #[.int .i64 x, .pointer none, .int .i64 ((i + 1 : Nat) : Int)] 78)
  have hb : w.heap.size ≤ w.heap.size + 3 + i := by omega
  refine ⟨by simp [World.setCell]; omega, (h2.alloc _).far (by show w.heap.size ≠ w.heap.size + 3 + i; omega) _, (h3.alloc _).far (by show w.heap.size + 1 ≠ w.heap.size + 3 + i; omega) _, ?_, ?_, b1.setCell (p := ⟨w.heap.size + 3 + i, 1, none⟩) hb _⟩
  · have := (h4.alloc (.cells #[.int .i64 x, .pointer none, .int .i64 ((i + 1 : Nat) : Int)] 78)).far (p := ⟨w.heap.size + 3 + i, 1, none⟩) (by show w.heap.size + 1 + 1 ≠ w.heap.size + 3 + i; omega) (.pointer (some ⟨wr.heap.size, 0, none⟩))
    rw [if_pos (by omega)] at this ⊢
    exact this
  · intro j hj hj1
    by_cases hji : j = i + 1
    · subst hji
      have := (Blk.new wr 78 #[.int .i64 x, .pointer none, .int .i64 ((i + 1 : Nat) : Int)]).far (p := ⟨w.heap.size + 3 + i, 1, none⟩) (by show wr.heap.size ≠ w.heap.size + 3 + i; omega) (.pointer (some ⟨wr.heap.size, 0, none⟩))
      rw [hx hj, if_neg (by omega)]
      rw [hs] at this ⊢
      exact this
    · have hb5 := (h5 j hj (by omega)).alloc (.cells #[.int .i64 x, .pointer none, .int .i64 ((i + 1 : Nat) : Int)] 78)
      by_cases hjj : j = i
      · subst hjj
        have := hb5.set_ 1 (.pointer (some ⟨wr.heap.size, 0, none⟩))
        rw [if_pos (by omega)]
        rw [hs] at this ⊢
        exact this
      · have := hb5.far (p := ⟨w.heap.size + 3 + i, 1, none⟩) (by show w.heap.size + 3 + j ≠ w.heap.size + 3 + i; omega) (.pointer (some ⟨wr.heap.size, 0, none⟩))
        rw [if_pos (by omega)] at this ⊢
        exact this

def chainOf (H n : Nat) : List Nat := (List.range n).map (H + 3 + ·)
theorem linkAt_chain (H n i : Nat) : linkAt (chainOf H n) i = if i < n then some ⟨H + 3 + i, 0, none⟩ else none := by
  unfold linkAt chainOf
  by_cases h : i < n
  · rw [if_pos h]
    simp [List.getElem?_range h]
  · rw [if_neg h]
    simp [List.getElem?_eq_none (show (List.range n).length ≤ i by simp; omega)]
theorem ZtSt.chain {w wr : World} {pcs : List Int} {v6 v7 : Value} (h : ZtSt w pcs v6 v7 pcs.length wr) : Chain wr wr.heap.size (chainOf w.heap.size pcs.length) pcs := by
  obtain ⟨h1, h2, h3, h4, h5, h6⟩ := h
  refine ⟨by simp [chainOf], fun i hi hi' => ?_⟩
  have := h5 i hi' hi'
  rw [linkAt_chain]
  simp only [chainOf, List.getElem_map, List.getElem_range]
  exact ⟨by omega, this⟩

/-- The relation of ZZTable's loop. -/
def ZtRel (w : World) (pcs : List Int) (v6 v7 : Value) (k : Nat) (v12 v20 : Value) (wr : World) : Prop :=
  ∃ i : Nat, i + k = pcs.length ∧ v12 = .pointer (lastAt w.heap.size i) ∧ v20 = .int .i64 (i : Int) ∧ ZtSt w pcs v6 v7 i wr
end Go.Proofs.Ytfbnnbbjfjhkjaa
