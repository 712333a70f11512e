/- A function that came in, read as data, as rows of integers in memory. -/
import Derived.Test.YtfbnnbbjfjhkjaaOpen
import Derived.Test.YtfbnnbbjfjhkjaaInts
namespace Go.Proofs.Ytfbnnbbjfjhkjaa
open Go.RowKit Go.ChangeShapes Go.WideShapes Go.Deep
set_option linter.unusedVariables false

theorem Try.cells46 : Try.prog.cellsOf 46 = 1 := by kernel_rfl
theorem Try.cells47 : Try.prog.cellsOf 47 = 1 := by kernel_rfl
theorem Try.cells49 : Try.prog.cellsOf 49 = 5 := by kernel_rfl
theorem Try.cells2 : Try.prog.cellsOf 2 = 1 := by kernel_rfl
theorem Try.cells3 : Try.prog.cellsOf 3 = 1 := by kernel_rfl

theorem five_of {α : Type} {l : List α} (h : l.length = 5) : ∃ a b c d e, l = [a, b, c, d, e] := by
  match l, h with
  | [a, b, c, d, e], _ => exact ⟨a, b, c, d, e, rfl⟩

section
variable {H : Type} {enc : TypeId × Value → H} {w : World} {base : Nat} {spare : Nat → Bool} {held : Bool} {fuel : Nat}
/-- A row of integers. -/
theorem ints_of {t e : TypeId} {k : IntKind} {v : Value} {x : DataW H × List MemPlace} (ht : Try.prog.underlying t = some (.slice e)) (he : Try.prog.underlying e = some (.int k)) (hc : Try.prog.cellsOf e = 1)
    (h : DataW.trod enc Try.prog w base spare held fuel t [v] = some x) : ∃ A n c l, v = .slice A n c ∧ Is w w.heap.size A n c k l ∧ ∀ z ∈ l, (Lit.int k z).wf = true := by
  rcases open_ints ht he hc h with ⟨h0, _⟩ | ⟨a, len, cap, zs, hcs, _, hl, hm, hz, _, hcell, hwf⟩
  · simp at h0
    exact ⟨none, 0, 0, [], h0, ⟨rfl, Nat.le_refl _, Nat.zero_le _, fun h => absurd h (Nat.lt_irrefl 0)⟩, fun z hz => by cases hz⟩
  · simp at hcs
    have hlz : len ≤ zs.length := by rw [hz]; split <;> omega
    refine ⟨some a, len, cap, zs.take len, hcs, ⟨by simp; omega, hl, hm, fun hn => ?_⟩, fun z hz => hwf z (List.mem_of_mem_take hz)⟩
    have h0 := hcell 0 (by omega)
    have hlt : a.block < w.heap.size := World.block_lt_of_cell? w a (by simpa [Addr.add] using h0)
    obtain ⟨g, o, spot⟩ := a
    have hspot : spot = none := by simpa [Addr.add] using World.cell?_spot h0
    subst hspot
    refine ⟨g, o, rfl, hlt, fun j hj => ?_⟩
    have hj' : j < zs.length := by simp at hj; omega
    have := hcell j hj'
    rw [add_flat] at this
    rw [this]
    simp [List.getElem?_eq_getElem hj']

/-- The five cells of a function. -/
theorem code_of {cs : List Value} {x : DataW H × List MemPlace} (hl : cs.length = 5) (h : DataW.trod enc Try.prog w base spare held fuel 49 cs = some x) :
    ∃ (A0 A2 A3 : Option Addr) (n0 c0 n2 c2 n3 c3 : Nat) (sz q : Int) (pcs bef beh : List Int), cs = [.slice A0 n0 c0, .int .i64 sz, .slice A2 n2 c2, .slice A3 n3 c3, .int .i64 q] ∧
      Is w w.heap.size A0 n0 c0 .i64 pcs ∧ Is w w.heap.size A2 n2 c2 .i32 bef ∧ Is w w.heap.size A3 n3 c3 .i32 beh ∧
      (∀ z ∈ bef, -2147483648 ≤ z ∧ z ≤ 2147483647) ∧ (∀ z ∈ beh, -2147483648 ≤ z ∧ z ≤ 2147483647) := by
  obtain ⟨ys, n', _, _, _, hyl, hf⟩ := DataW.trod_struct Try.underlying49 h
  obtain ⟨v0, v1, v2, v3, v4, rfl⟩ := five_of hl
  obtain ⟨y0, y1, y2, y3, y4, rfl⟩ := five_of hyl
  have h0 : DataW.trod enc Try.prog w base spare held n' 46 (([v0, v1, v2, v3, v4].drop 0).take (Try.prog.cellsOf 46)) = some y0 := hf 0 _ rfl
  have h1 : DataW.trod enc Try.prog w base spare held n' 2 (([v0, v1, v2, v3, v4].drop 1).take (Try.prog.cellsOf 2)) = some y1 := hf 1 _ rfl
  have h2 : DataW.trod enc Try.prog w base spare held n' 47 (([v0, v1, v2, v3, v4].drop 2).take (Try.prog.cellsOf 47)) = some y2 := hf 2 _ rfl
  have h3 : DataW.trod enc Try.prog w base spare held n' 47 (([v0, v1, v2, v3, v4].drop 3).take (Try.prog.cellsOf 47)) = some y3 := hf 3 _ rfl
  have h4 : DataW.trod enc Try.prog w base spare held n' 3 (([v0, v1, v2, v3, v4].drop 4).take (Try.prog.cellsOf 3)) = some y4 := hf 4 _ rfl
  rw [Try.cells46] at h0
  rw [Try.cells2] at h1
  rw [Try.cells47] at h2 h3
  rw [Try.cells3] at h4
  obtain ⟨A0, n0, c0, pcs, rfl, i0, _⟩ := ints_of Try.underlying46 Try.underlying2 Try.cells2 h0
  obtain ⟨sz, e1, _, _⟩ := DataW.trod_int Try.underlying2 h1
  obtain ⟨A2, n2, c2, bef, rfl, i2, b2⟩ := ints_of Try.underlying47 Try.underlying21 Try.cells21 h2
  obtain ⟨A3, n3, c3, beh, rfl, i3, b3⟩ := ints_of Try.underlying47 Try.underlying21 Try.cells21 h3
  obtain ⟨q, e4, _, _⟩ := DataW.trod_int Try.underlying3 h4
  simp at e1 e4
  subst e1 e4
  exact ⟨A0, A2, A3, n0, c0, n2, c2, n3, c3, sz, q, pcs, bef, beh, rfl, i0, i2, i3, fun z hz => bounds_i32 (b2 z hz), fun z hz => bounds_i32 (b3 z hz)⟩
end
end Go.Proofs.Ytfbnnbbjfjhkjaa
