/- Plain facts on memory: a buffer that is written and then appended from; a chain of instructions. -/
import Derived.Test.YtfbnnbbjfjhkjaaThin
import Derived.Test.YtfbnnbbjfjhkjaaInts
import Derived.Laws.IdiomCopy
namespace Go.Proofs.Ytfbnnbbjfjhkjaa
open Go.RowKit
set_option linter.unusedVariables false

theorem heap_setCells (g : Nat) : ∀ (vs : List Value) (o : Nat) (w : World) (k : Nat), k ≠ g → (w.setCells g o vs).heap[k]? = w.heap[k]?
  | [], _, _, _, _ => rfl
  | v :: r, o, w, k, h => by
    rw [World.setCells, heap_setCells g r (o + 1) _ k h]
    exact Below.heap_setCell w ⟨g, o, none⟩ v k h
theorem size_setCells (g : Nat) : ∀ (vs : List Value) (o : Nat) (w : World), (w.setCells g o vs).heap.size = w.heap.size
  | [], _, _ => rfl
  | v :: r, o, w => by rw [World.setCells, size_setCells g r (o + 1)]; simp [World.setCell]
theorem blk_setCells {t : TypeId} (g : Nat) : ∀ (vs : List Value) (o : Nat) (w : World) (cs : Array Value), Blk w g t cs → ∃ cs' : Array Value, cs'.size = cs.size ∧ Blk (w.setCells g o vs) g t cs'
  | [], _, _, cs, h => ⟨cs, rfl, h⟩
  | v :: r, o, w, cs, h => by
    obtain ⟨cs', hs, hb⟩ := blk_setCells g r (o + 1) _ _ (h.set_ o v)
    exact ⟨cs', by simpa using hs, hb⟩
theorem below_setCells {B : Nat} (g : Nat) (hB : B ≤ g) : ∀ (vs : List Value) (o : Nat) (a w : World), Below B a w → Below B a (w.setCells g o vs)
  | [], _, _, _, h => h
  | v :: r, o, a, w, h => below_setCells g hB r (o + 1) a _ (h.setCell (p := ⟨g, o, none⟩) hB v)

/-- A buffer of five bytes of the call's own. -/
def Buf5 (w : World) (g : Nat) : Prop := ∃ cs : Array Value, cs.size = 5 ∧ Blk w g 5 cs
theorem Buf5.ready {w : World} {g : Nat} (h : Buf5 w g) (n : Nat) (hn : n ≤ 5) : ∀ j, j < n → (w.cell? ⟨g, 0 + j, none⟩).isSome = true ∧ w.frozen? ⟨g, 0 + j, none⟩ = false := fun j hj => by
  obtain ⟨cs, hs, hb⟩ := h
  refine ⟨?_, hb.free _⟩
  rw [hb.cell, Array.getElem?_eq_getElem (by omega)]
  rfl
theorem Buf5.wrote {w : World} {g : Nat} (h : Buf5 w g) (vs : List Value) : Buf5 (w.setCells g 0 vs) g := by
  obtain ⟨cs, hs, hb⟩ := h
  obtain ⟨cs', h1, h2⟩ := blk_setCells g vs 0 w cs hb
  exact ⟨cs', by omega, h2⟩
/-- The bytes that were just written, as a slice. -/
theorem Buf5.bytes {w : World} {g : Nat} (h : Buf5 w g) (l : List UInt8) (hl : l.length ≤ 5) {B c : Nat} (hB : g < B) (hc : l.length ≤ c) (hm : c ≤ maxLen) :
    Bs (w.setCells g 0 (Lib.byteCells l)) B (some ⟨g, 0, none⟩) l.length c l :=
  ⟨rfl, hc, hm, fun _ => ⟨g, 0, rfl, hB, fun j hj => by
    have hr := h.ready l.length hl
    have := World.cell?_setCells_in g (Lib.byteCells l) 0 w (fun j hj => (hr j (by simpa [byteCells_length] using hj)).1) j (by simpa [byteCells_length] using hj)
    rw [this]
    simp [Lib.byteCells]⟩⟩
theorem Buf5.grown {w w' : World} {g : Nat} {row : Option Nat} (h : Buf5 w g) (hg : w.grownBy w' row) (hr : some g ≠ row) : Buf5 w' g := by
  obtain ⟨cs, hs, hb⟩ := h
  exact ⟨cs, hs, hb.grown hg hr⟩
theorem Buf5.drewN {w : World} {g : Nat} (h : Buf5 w g) (n : Nat) : Buf5 (w.drewN n) g := h
theorem Buf5.alloc {w : World} {g : Nat} (h : Buf5 w g) (o : Obj) : Buf5 (w.alloc o) g := by
  obtain ⟨cs, hs, hb⟩ := h
  exact ⟨cs, hs, hb.alloc o⟩

/-- A row of the call's own, not in block g, behind writes to block g. -/
theorem ownsRow_setCells {w : World} {base : Nat} {e : TypeId} {size n : Nat} {v : Value} {xs : List Value} (h : w.ownsRow base e size v n xs) {g : Nat} (hg : v.ownBlock ≠ some g) (vs : List Value) (o : Nat) :
    (w.setCells g o vs).ownsRow base e size v n xs := by
  obtain ⟨h1, h2⟩ := h
  refine ⟨h1, ?_⟩
  rcases h2 with h2 | ⟨b, cap, cur, rfl, hb, hh, r⟩
  · exact .inl h2
  · exact .inr ⟨b, cap, cur, rfl, hb, by rw [heap_setCells g vs o w b (fun e => hg (by rw [e]; rfl))]; exact hh, r⟩

/-- An append of bytes onto a row of the call's own that does not lie in block g. -/
theorem append_bytes_far {w0 w : World} {ops : Array Oper} {rest : List Oper} {o : Oper} {a : Act} {Q : Exit → Act → World → Prop} (hgd : o.guard = none) (s x : Operand)
    (ho : o.op = .call { callee := .builtin .append, args := #[s, x], argTypes := #[23, 23] })
    {v : Value} {l m : List UInt8} {B : Nat} {A : Option Addr} {k n c g : Nat} (hs : a.eval s = v) (hown : w.ownsRow w0.heap.size 5 1 v k (Lib.byteCells l)) (hbel : Below w0.heap.size w0 w)
    (hx : a.eval x = .slice A n c) (hr : Bs w B A n c m) (hlim : k + n ≤ 140737488355328) (hfar : v.ownBlock ≠ some g) (hglt : g < w.heap.size)
    (h : ∀ A' n' c' w', w'.ownsRow w0.heap.size 5 1 (.slice A' n' c') n' (Lib.byteCells (l ++ m)) → Below w0.heap.size w0 w' → w.grownBy w' v.ownBlock → (Value.slice A' n' c').ownBlock ≠ some g → wpList Try.prog ops Q rest (a.put o.dst (.slice A' n' c')) w') : wpList Try.prog ops Q (o :: rest) a w := by
  obtain ⟨i0, hi0, hz0, hz1, hz2⟩ := info_parts Try.info5
  refine wpList_append_reads w hgd s x 23 ho w0.heap.size 5 i0 (.int .u8 0) 1 1 Try.underlying23 hi0 hz0 hz1 hz2 rfl (by decide) v k _ hs hown B A n c _ hx hr.reads (byteCells_one _) (by simp only [maxLen]; omega) (by omega) hbel.size ?_
  intro v' w' hown' hg' hat
  obtain ⟨A', c', rfl, -, -⟩ := own_form hown'
  rw [← byteCells_append] at hown'
  refine h A' _ c' w' hown' (below_append hbel hown (Nat.le_refl _) hbel.size hg') hg' fun e => ?_
  rcases hat with e2 | e2
  · exact hfar (e2.symm.trans e)
  · rw [e] at e2
    injection e2 with e2
    omega
end Go.Proofs.Ytfbnnbbjfjhkjaa
