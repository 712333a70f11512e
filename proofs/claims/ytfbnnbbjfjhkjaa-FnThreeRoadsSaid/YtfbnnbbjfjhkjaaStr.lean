/- Bytes as a string; a slice of bytes that came in, as bytes. -/
import Derived.Test.YtfbnnbbjfjhkjaaNext
namespace Go.Proofs.Ytfbnnbbjfjhkjaa
open Go.RowKit

theorem foldl_push (l : List UInt8) : ∀ s : ByteArray, (l.map fun b => ((b.toNat : Nat) : Int)).foldl (fun (r : ByteArray) n => r.push (UInt8.ofNat n.toNat)) s = ⟨s.data ++ l.toArray⟩ := by
  induction l with
  | nil => intro s; simp
  | cons b l ih =>
    intro s
    rw [List.map_cons, List.foldl_cons, ih]
    have : UInt8.ofNat ((b.toNat : Nat) : Int).toNat = b := by simp
    rw [this]
    show ByteArray.mk _ = _
    congr 1
    simp [ByteArray.push]

/-- 'string(b)'. -/
theorem conv_bytes {w : World} {B n c : Nat} {A : Option Addr} {l : List UInt8} (h : Bs w B A n c l) (W : World) (hW : ∀ p : Addr, p.block < B → W.cell? p = w.cell? p) :
    (convert 23 9 (.slice A n c)).run Try.prog W = .ok (.string ⟨l.toArray⟩) W := by
  rw [run_convert_bytes_string W 23 9 5 A n c Try.underlying23 Try.underlying5 Try.underlying9]
  have h' := h.keep hW
  have hl := h.len
  rcases A with _ | a
  · have hn : n = 0 := by
      rcases Nat.eq_zero_or_pos n with h0 | h0
      · exact h0
      · obtain ⟨_, _, e, _⟩ := h'.cells h0
        cases e
    subst hn
    obtain rfl : l = [] := List.eq_nil_of_length_eq_zero hl
    rfl
  · have hc := run_loadCells_list (P := Try.prog) (w := W) a (Lib.byteCells l) (by
      intro j v hv
      rcases Nat.eq_zero_or_pos n with h0 | h0
      · subst h0
        obtain rfl : l = [] := List.eq_nil_of_length_eq_zero hl
        simp [Lib.byteCells] at hv
      · obtain ⟨g, o, e, _, hx⟩ := h'.reads.2 h0
        injection e with e
        subst e
        rw [add_flat]
        exact hx j v hv)
    rw [byteCells_length, hl] at hc
    have e : Lib.byteCells l = (l.map fun b => ((b.toNat : Nat) : Int)).map (Value.int .u8) := by simp [Lib.byteCells]
    rw [e] at hc
    rw [run_bytesToString W a n c _ hc, foldl_push]
    simp

/-- A slice of integers that came in: nil, or a row of 'cap' cells that hold the numbers zs. -/
def IsRow (k : IntKind) (w : World) (a : Option Addr) (len cap : Nat) (zs : List Int) : Prop :=
  (a = none ∧ len = 0 ∧ cap = 0 ∧ zs = []) ∨
  ∃ x, a = some x ∧ len ≤ cap ∧ cap ≤ maxLen ∧ zs.length = cap ∧ (∀ i, i < zs.length → w.cell? (x.add i) = some (.int k (zs.getD i 0))) ∧ ∀ n ∈ zs, (Lit.int k n).wf = true

theorem bs_isRow {w : World} {a : Option Addr} {len cap : Nat} {zs : List Int} (h : IsRow .u8 w a len cap zs) : ∃ l, Bs w w.heap.size a len cap l := by
  rcases h with ⟨rfl, rfl, rfl, rfl⟩ | ⟨x, rfl, hl, hm, hz, hc, hwf⟩
  · exact ⟨[], rfl, Nat.le_refl _, Nat.zero_le _, fun h => absurd h (Nat.lt_irrefl 0)⟩
  · refine ⟨(zs.take len).map fun z => UInt8.ofNat z.toNat, by simp; omega, hl, hm, fun hn => ?_⟩
    have h0 := hc 0 (by omega)
    have hlt : x.block < w.heap.size := World.block_lt_of_cell? w x (by simpa [Addr.add] using h0)
    obtain ⟨g, o, spot⟩ := x
    have hspot : spot = none := by simpa [Addr.add] using World.cell?_spot h0
    subst hspot
    refine ⟨g, o, rfl, hlt, fun j hj => ?_⟩
    have hj' : j < zs.length := by simp at hj; omega
    have := hc j hj'
    rw [add_flat] at this
    rw [this]
    have hz1 : zs.getD j 0 = zs[j] := by simp [List.getD, List.getElem?_eq_getElem hj']
    have hw := hwf zs[j] (List.getElem_mem hj')
    have hb : 0 ≤ zs[j] ∧ zs[j] ≤ 255 := by simpa [Lit.wf, IntKind.min, IntKind.max, IntKind.bits, IntKind.signed] using hw
    rw [hz1]
    simp only [List.getElem_map, List.getElem_take]
    congr 2
    simp only [UInt8.toNat_ofNat']
    omega
end Go.Proofs.Ytfbnnbbjfjhkjaa
