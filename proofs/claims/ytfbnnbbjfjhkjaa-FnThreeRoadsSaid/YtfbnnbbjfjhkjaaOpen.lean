/- A slice of runs that came in, read as data, as runs in memory. -/
import Derived.Test.YtfbnnbbjfjhkjaaTabv
import Derived.Deep.Slices
import Derived.Deep.Fields
import Derived.ChangeSame
import Derived.OpenShut
namespace Go.Proofs.Ytfbnnbbjfjhkjaa
open Go.RowKit Go.ChangeShapes Go.WideShapes Go.Deep

theorem Try.cells41 : Try.prog.cellsOf 41 = 2 := by kernel_rfl
theorem Try.cells22 : Try.prog.cellsOf 22 = 1 := by kernel_rfl
theorem Try.cells21 : Try.prog.cellsOf 21 = 1 := by kernel_rfl

theorem two_of {α : Type} {l : List α} (h : l.length = 2) : ∃ a b, l = [a, b] := by
  match l, h with
  | [a, b], _ => exact ⟨a, b, rfl⟩
/-- A list out of a choice for each place. -/
theorem list_of {α : Type} (P : Nat → α → Prop) : ∀ n : Nat, (∀ i, i < n → ∃ y, P i y) → ∃ l : List α, l.length = n ∧ ∀ i (hi : i < l.length), P i l[i]
  | 0, _ => ⟨[], rfl, fun i hi => by simp at hi⟩
  | n + 1, h => by
    obtain ⟨l, hl, hp⟩ := list_of P n fun i hi => h i (by omega)
    obtain ⟨y, hy⟩ := h n (by omega)
    refine ⟨l ++ [y], by simp [hl], fun i hi => ?_⟩
    by_cases hin : i < l.length
    · rw [List.getElem_append_left hin]
      exact hp i hin
    · have : i = n := by simp at hi; omega
      subst this
      rw [List.getElem_append_right (by omega)]
      simpa [hl] using hy

/-- The two cells of a run. -/
theorem run_cells {H : Type} {enc : TypeId × Value → H} {w : World} {base : Nat} {spare : Nat → Bool} {held : Bool} {fuel : Nat} {cs : List Value} {x : DataW H × List MemPlace} (hl : cs.length = 2)
    (h : DataW.trod enc Try.prog w base spare held fuel 41 cs = some x) : ∃ (q : Nat) (v : Int), cs = [.int .u32 (q : Int), .int .i32 v] := by
  obtain ⟨ys, n', _, _, _, hyl, hf⟩ := DataW.trod_struct Try.underlying41 h
  obtain ⟨c0, c1, rfl⟩ := two_of hl
  obtain ⟨y0, y1, rfl⟩ := two_of hyl
  have h0 : DataW.trod enc Try.prog w base spare held n' 22 (([c0, c1].drop 0).take (Try.prog.cellsOf 22)) = some y0 := hf 0 _ rfl
  have h1 : DataW.trod enc Try.prog w base spare held n' 21 (([c0, c1].drop 1).take (Try.prog.cellsOf 21)) = some y1 := hf 1 _ rfl
  rw [Try.cells22] at h0
  rw [Try.cells21] at h1
  obtain ⟨q, e0, _, wq⟩ := DataW.trod_int Try.underlying22 h0
  obtain ⟨v, e1, _, _⟩ := DataW.trod_int Try.underlying21 h1
  simp at e0 e1
  have hq := bounds_u32 wq
  obtain ⟨q0, rfl⟩ := Int.eq_ofNat_of_zero_le hq.1
  exact ⟨q0, v, by rw [e0, e1]⟩

theorem runs_of {H : Type} {enc : TypeId × Value → H} {w : World} {base : Nat} {spare : Nat → Bool} {held : Bool} {fuel n c : Nat} {A : Option Addr} {x : DataW H × List MemPlace}
    (h : DataW.trod enc Try.prog w base spare held fuel 36 [.slice A n c] = some x) : ∃ l, Rs w w.heap.size A n c l := by
  rcases open_slice Try.underlying36 h with ⟨h0, _⟩ | ⟨a, len, cap, m, k, D, Pl, hcs, _, hl, hm, hmm, _, hi⟩
  · simp at h0
    obtain ⟨rfl, rfl, rfl⟩ := h0
    exact ⟨[], rfl, Nat.le_refl _, Nat.zero_le _, fun h => absurd h (Nat.lt_irrefl 0)⟩
  · simp at hcs
    obtain ⟨rfl, rfl, rfl⟩ := hcs
    have hnm : n ≤ m := by rw [hmm]; split <;> omega
    obtain ⟨l, hll, hsp⟩ := list_of (fun i (y : Nat × Int) => w.cell? (a.add (i * 2)) = some (.int .u32 (y.1 : Int)) ∧ w.cell? (a.add (i * 2 + 1)) = some (.int .i32 y.2)) n (fun i hin => by
      obtain ⟨cs', hc, ht⟩ := hi i (by omega)
      rw [Try.cells41] at hc
      obtain ⟨_, hcl, hat⟩ := World.cells?_some hc
      obtain ⟨q, v, rfl⟩ := run_cells hcl ht
      refine ⟨(q, v), ?_, ?_⟩
      · have := hat 0 (by omega)
        simpa [Addr.add] using this
      · have := hat 1 (by omega)
        rw [Go.Deep.add_add] at this
        simpa using this)
    refine ⟨l, hll, hl, hm, fun hn => ?_⟩
    have h0 := (hsp 0 (by omega)).1
    have hlt : a.block < w.heap.size := World.block_lt_of_cell? w a (by simpa [Addr.add] using h0)
    obtain ⟨g, o, spot⟩ := a
    have hspot : spot = none := by simpa [Addr.add] using World.cell?_spot h0
    subst hspot
    refine ⟨g, o, rfl, hlt, fun j hj => ?_⟩
    have := hsp j hj
    rw [add_flat, add_flat] at this
    exact this
end Go.Proofs.Ytfbnnbbjfjhkjaa
