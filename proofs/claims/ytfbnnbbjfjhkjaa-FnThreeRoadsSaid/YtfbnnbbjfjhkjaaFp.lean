/- What the writer of a table keeps from round to round. -/
import Derived.Test.YtfbnnbbjfjhkjaaClos
import Derived.Test.YtfbnnbbjfjhkjaaNext
import Derived.Test.YtfbnnbbjfjhkjaaPad
namespace Go.Proofs.Ytfbnnbbjfjhkjaa
open Go.RowKit
set_option linter.unusedVariables false

/-- The address of the i-th instruction; none behind the last. -/
def linkAt (bs : List Nat) (i : Nat) : Option Addr := bs[i]?.map fun b => ⟨b, 0, none⟩
/-- A chain of instructions in memory. -/
def Chain (w : World) (B : Nat) (bs : List Nat) (pcs : List Int) : Prop :=
  bs.length = pcs.length ∧ ∀ i (h : i < bs.length) (h' : i < pcs.length), bs[i] < B ∧ Blk w bs[i] 78 #[.int .i64 pcs[i], .pointer (linkAt bs (i + 1)), .int .i64 (i : Int)]
theorem Chain.below {w w' : World} {B : Nat} {bs : List Nat} {pcs : List Int} (h : Chain w B bs pcs) (hb : Below B w w') : Chain w' B bs pcs :=
  ⟨h.1, fun i h1 h2 => ⟨(h.2 i h1 h2).1, (h.2 i h1 h2).2.below hb (h.2 i h1 h2).1⟩⟩

/-- The bytes so far, and what is to come. -/
def FpEq (size q pc0 : Int) (PP : List (Nat × Nat)) (started : Bool) (old pc : Int) (D : List UInt8) (rest : List (Int × Int)) : Prop :=
  (started = false → D = [] ∧ old = -1 ∧ pc = pc0 ∧ pairs size q pc0 rest = PP) ∧
  (started = true → ∃ D' z, D = D' ++ Lib.uvarint z ∧ tab PP = D' ++ tab (emit size q z pc old rest))

theorem FpEq.keep {size q pc0 old pc : Int} {PP : List (Nat × Nat)} {D : List UInt8} {x : Int × Int} {r : List (Int × Int)} (h : FpEq size q pc0 PP true old pc D (x :: r)) (hx : x.2 = old ∨ sameNext x r = true) : FpEq size q pc0 PP true old pc D r := by
  refine ⟨fun h => (by cases h), fun _ => ?_⟩
  obtain ⟨D', z, h1, h2⟩ := h.2 rfl
  exact ⟨D', z, h1, by rw [h2, emit_keep hx]⟩
theorem FpEq.wait {size q pc0 old pc : Int} {PP : List (Nat × Nat)} {D : List UInt8} {x : Int × Int} {r : List (Int × Int)} (h : FpEq size q pc0 PP false old pc D (x :: r)) (hx : sameNext x r = true) : FpEq size q pc0 PP false old pc D r := by
  refine ⟨fun _ => ?_, fun h => (by cases h)⟩
  obtain ⟨h1, h2, h3, h4⟩ := h.1 rfl
  exact ⟨h1, h2, h3, by rw [← h4, pairs_keep hx]⟩
theorem FpEq.begin_ {size q pc0 old pc : Int} {PP : List (Nat × Nat)} {D : List UInt8} {x : Int × Int} {r : List (Int × Int)} (h : FpEq size q pc0 PP false old pc D (x :: r)) (hx : ¬ sameNext x r = true) :
    FpEq size q pc0 PP true x.2 pc (D ++ Lib.uvarint (zig (wrap32 (x.2 - old)))) r := by
  refine ⟨fun h => (by cases h), fun _ => ?_⟩
  obtain ⟨rfl, rfl, rfl, h4⟩ := h.1 rfl
  exact ⟨[], _, rfl, by rw [← h4, pairs_turn hx]; rfl⟩
theorem FpEq.turn {size q pc0 old pc : Int} {PP : List (Nat × Nat)} {D : List UInt8} {x : Int × Int} {r : List (Int × Int)} (h : FpEq size q pc0 PP true old pc D (x :: r)) (hx : ¬ (x.2 = old ∨ sameNext x r = true)) :
    FpEq size q pc0 PP true x.2 x.1 ((D ++ Lib.uvarint ((x.1 - pc) / q).toNat) ++ Lib.uvarint (zig (wrap32 (x.2 - old)))) r := by
  refine ⟨fun h => (by cases h), fun _ => ?_⟩
  obtain ⟨D', z, h1, h2⟩ := h.2 rfl
  refine ⟨D ++ Lib.uvarint ((x.1 - pc) / q).toNat, _, rfl, ?_⟩
  rw [h2, emit_turn hx, h1]
  simp [tab]
theorem FpEq.end_ {size q pc0 old pc : Int} {PP : List (Nat × Nat)} {D : List UInt8} (h : FpEq size q pc0 PP true old pc D []) : tab PP = D ++ Lib.uvarint ((size - pc) / q).toNat := by
  obtain ⟨D', z, h1, h2⟩ := h.2 rfl
  rw [h2, h1]
  simp [emit, tab]

/-- The relation of funcpctab's loop: at most k instructions are still to come. -/
def FpRel (w : World) (bs : List Nat) (ins : List (Int × Int)) (size q pc0 : Int) (k : Nat) (vd vv vo vpc vs vp : Value) (wr : World) : Prop :=
  ∃ (i : Nat) (A : Option Addr) (n c : Nat) (vl old pc lo : Int) (started : Bool) (D : List UInt8), i + k = ins.length ∧ vd = .slice A n c ∧ vv = .int .i32 vl ∧ vo = .int .i32 old ∧ vpc = .int .i64 pc ∧ vs = .bool started ∧ vp = .pointer (linkAt bs i) ∧
    wr.ownsRow w.heap.size 5 1 (.slice A n c) n (Lib.byteCells D) ∧ (Value.slice A n c).ownBlock ≠ some (w.heap.size + 1 + 1) ∧ n ≤ 10 * i ∧ FpEq size q pc0 (pairs size q pc0 ins) started old pc D (ins.drop i) ∧
    InOrder size q lo (ins.drop i) ∧ 0 ≤ pc ∧ pc ≤ lo ∧ pc < size ∧ -2147483648 ≤ old ∧ old ≤ 2147483647 ∧ (started = false → 0 < k) ∧
    Blk wr (w.heap.size + 1) 83 #[.int .i64 0, .slice none 0 0, .pointer none] ∧ Buf5 wr (w.heap.size + 1 + 1) ∧ Below w.heap.size w wr

theorem own_heap {w w' : World} {base : Nat} {e : TypeId} {size n : Nat} {v : Value} {xs : List Value} (h : w.ownsRow base e size v n xs) (hh : w.heap = w'.heap) : w'.ownsRow base e size v n xs := by
  unfold World.ownsRow at h ⊢
  rw [← hh]
  exact h
theorem Blk.heap {w w' : World} {g : Nat} {t : TypeId} {cs : Array Value} (h : Blk w g t cs) (hh : w.heap = w'.heap) : Blk w' g t cs := by
  unfold Blk at h ⊢
  rw [← hh]
  exact h
theorem Buf5.heap {w w' : World} {g : Nat} (h : Buf5 w g) (hh : w.heap = w'.heap) : Buf5 w' g := by
  obtain ⟨cs, h1, h2⟩ := h
  exact ⟨cs, h1, h2.heap hh⟩

/-- Behind a write to the buffer and an append from it the symbol and the buffer are there. -/
theorem fp_after {wr W w5 : World} {base gB gS n : Nat} {v : Value} {D : List UInt8} {cs : Array Value} (hS : Blk wr gS 83 cs) (hBf : Buf5 wr gB) (hh : wr.heap = W.heap) (hne : gS ≠ gB) (vs : List Value)
    (hown : (W.setCells gB 0 vs).ownsRow base 5 1 v n (Lib.byteCells D)) (hfar : v.ownBlock ≠ some gB) (hg : (W.setCells gB 0 vs).grownBy w5 v.ownBlock) : Blk w5 gS 83 cs ∧ Buf5 w5 gB := by
  have h1 : Blk (W.setCells gB 0 vs) gS 83 cs := (heap_setCells gB vs 0 W gS hne).trans (hS.heap hh)
  exact ⟨h1.grown hg (Ne.symm (own_ne hown h1 (by decide))), ((hBf.heap hh).wrote vs).grown hg (Ne.symm hfar)⟩
theorem buf_lt {w : World} {g : Nat} (h : Buf5 w g) : g < w.heap.size := by
  obtain ⟨cs, _, h2⟩ := h
  exact h2.lt

theorem zigzag_eq (x : Int) : Lib.zigzag x = zig x := by
  unfold Lib.zigzag zig
  split <;> split <;> omega

/-- The memory of funcpctab in its loop: the bytes so far, the symbol, the buffer. -/
def FpSt (w : World) (A : Option Addr) (n c : Nat) (D : List UInt8) (W : World) : Prop :=
  W.ownsRow w.heap.size 5 1 (.slice A n c) n (Lib.byteCells D) ∧ (Value.slice A n c).ownBlock ≠ some (w.heap.size + 1 + 1) ∧ Blk W (w.heap.size + 1) 83 #[.int .i64 0, .slice none 0 0, .pointer none] ∧ Buf5 W (w.heap.size + 1 + 1) ∧ Below w.heap.size w W
theorem FpSt.drewN {w W : World} {A : Option Addr} {n c : Nat} {D : List UInt8} (h : FpSt w A n c D W) (k : Nat) : FpSt w A n c D (W.drewN k) :=
  ⟨own_heap h.1 rfl, h.2.1, h.2.2.1.heap rfl, h.2.2.2.1.heap rfl, below_drewN h.2.2.2.2 k⟩

/-- An append from the buffer, just written. -/
theorem append_buf {w W : World} {ops : Array Oper} {rest : List Oper} {o : Oper} {a : Act} {Q : Exit → Act → World → Prop} (hgd : o.guard = none) (s x : Operand)
    (ho : o.op = .call { callee := .builtin .append, args := #[s, x], argTypes := #[23, 23] })
    {A : Option Addr} {n c : Nat} {D e : List UInt8} (hst : Hid (FpSt w A n c D W)) (hs : a.eval s = .slice A n c) (hx : a.eval x = .slice (some ⟨w.heap.size + 1 + 1, 0, none⟩) e.length 5) (he : e.length ≤ 5) (hlim : n + 5 ≤ 140737488355328)
    (h : ∀ A' n' c' w', FpSt w A' n' c' (D ++ e) w' → n' = n + e.length → wpList Try.prog ops Q rest (a.put o.dst (.slice A' n' c')) w') : wpList Try.prog ops Q (o :: rest) a (W.setCells (w.heap.size + 1 + 1) 0 (Lib.byteCells e)) := by
  obtain ⟨h1, h2, h3, h4, h5⟩ := hst.out
  have hown := ownsRow_setCells h1 h2 (Lib.byteCells e) 0
  have hbel := below_setCells (w.heap.size + 1 + 1) (by omega) (Lib.byteCells e) 0 _ _ h5
  have hglt : w.heap.size + 1 + 1 < (W.setCells (w.heap.size + 1 + 1) 0 (Lib.byteCells e)).heap.size := by rw [size_setCells]; exact buf_lt h4
  refine append_bytes_far (w0 := w) hgd s x ho hs hown hbel hx (h4.bytes e he hglt he (by decide)) (by omega) h2 hglt ?_
  intro A' n' c' w' g1 g2 g3 g4
  obtain ⟨k1, k2⟩ := fp_after h3 h4 rfl (by omega) (Lib.byteCells e) hown h2 g3
  have e1 := own_bytes g1
  have e2 := own_bytes h1
  rw [List.length_append] at e1
  exact h A' n' c' w' ⟨g1, g4, k1, k2, g2⟩ (by omega)

/-- The closing zero. -/
theorem append_zero {w W : World} {ops : Array Oper} {rest : List Oper} {o : Oper} {a : Act} {Q : Exit → Act → World → Prop} (hgd : o.guard = none) (s x : Operand)
    (ho : o.op = .call { callee := .builtin .append, args := #[s, x], argTypes := #[23, 23] })
    {A : Option Addr} {n c : Nat} {D : List UInt8} (hst : Hid (FpSt w A n c D W)) (hs : a.eval s = .slice A n c) (hx : a.eval x = .slice (some ⟨W.heap.size, 0, none⟩) 1 1) (hlim : n + 5 ≤ 140737488355328)
    (h : ∀ A' n' c' w', FpSt w A' n' c' (D ++ [0]) w' → wpList Try.prog ops Q rest (a.put o.dst (.slice A' n' c')) w') : wpList Try.prog ops Q (o :: rest) a (W.alloc (.cells #[.int .u8 0] 5)) := by
  obtain ⟨h1, h2, h3, h4, h5⟩ := hst.out
  have hglt : w.heap.size + 1 + 1 < (W.alloc (.cells #[.int .u8 0] 5)).heap.size := by
    have := buf_lt h4
    simp
    omega
  have hlit := bs_lit W [0] (by decide) #[.int .u8 0] rfl
  have h1' := h1.alloc (.cells #[.int .u8 0] 5)
  have h3' := h3.alloc (.cells #[.int .u8 0] 5)
  have h4' := h4.alloc (.cells #[.int .u8 0] 5)
  refine append_bytes_far (w0 := w) hgd s x ho hs h1' (h5.alloc h5.size _) hx hlit (by simp; omega) h2 hglt ?_
  intro A' n' c' w' g1 g2 g3 g4
  exact h A' n' c' w' ⟨g1, g4, h3'.grown g3 (Ne.symm (own_ne h1' h3' (by decide))), h4'.grown g3 (Ne.symm h2), g2⟩

/-- What funcpctab leaves, behind the two stores to its symbol. -/
theorem fp_done {w W : World} {A : Option Addr} {n c : Nat} {D : List UInt8} (hst : FpSt w A n c D W) (u : Value) :
    Blk ((W.setCell ⟨w.heap.size + 1, 0, none⟩ u).setCell ⟨w.heap.size + 1, 1, none⟩ (.slice A n c)) (w.heap.size + 1) 83 #[u, .slice A n c, .pointer none] ∧
    Bs ((W.setCell ⟨w.heap.size + 1, 0, none⟩ u).setCell ⟨w.heap.size + 1, 1, none⟩ (.slice A n c)) ((W.setCell ⟨w.heap.size + 1, 0, none⟩ u).setCell ⟨w.heap.size + 1, 1, none⟩ (.slice A n c)).heap.size A n c D ∧
    Below w.heap.size w ((W.setCell ⟨w.heap.size + 1, 0, none⟩ u).setCell ⟨w.heap.size + 1, 1, none⟩ (.slice A n c)) := by
  obtain ⟨h1, h2, h3, h4, h5⟩ := hst
  have hne := own_ne h1 h3 (by decide)
  have k1 := ownsRow_setCells h1 hne [u] 0
  have k2 := ownsRow_setCells k1 hne [.slice A n c] 1
  refine ⟨(h3.set_ 0 u).set_ 1 _, Bs.of_own k2, (h5.setCell (p := ⟨w.heap.size + 1, 0, none⟩) (Nat.le_succ _) u).setCell (p := ⟨w.heap.size + 1, 1, none⟩) (Nat.le_succ _) _⟩

/-- The buffer takes a number. -/
theorem put_num {w W : World} {A : Option Addr} {n c : Nat} {D : List UInt8} (hst : FpSt w A n c D W) (x : Nat) (hx : x < 4294967296) :
    Calls Try.prog 44 #[.slice (some ⟨w.heap.size + 1 + 1, 0, none⟩) 5 5, .int .u64 x] W fun e w' => e = .returned (.int .i64 (Lib.uvarint x).length) ∧ w' = W.setCells (w.heap.size + 1 + 1) 0 (Lib.byteCells (Lib.uvarint x)) :=
  Try.binary_PutUvarint _ 0 5 5 x (by omega) W (uvarint_short hx) (hst.2.2.2.1.ready _ (uvarint_short hx))
theorem put_diff {w W : World} {A : Option Addr} {n c : Nat} {D : List UInt8} (hst : FpSt w A n c D W) (x : Int) (h0 : -2147483648 ≤ x) (h1 : x ≤ 2147483647) :
    Calls Try.prog 45 #[.slice (some ⟨w.heap.size + 1 + 1, 0, none⟩) 5 5, .int .i64 x] W fun e w' => e = .returned (.int .i64 (Lib.uvarint (zig x)).length) ∧ w' = W.setCells (w.heap.size + 1 + 1) 0 (Lib.byteCells (Lib.uvarint (zig x))) := by
  have hz := zig_lt h0 h1
  have := Try.binary_PutVarint (w.heap.size + 1 + 1) 0 5 5 x (by omega) (by omega) W
  rw [zigzag_eq] at this
  exact this (uvarint_short hz) (hst.2.2.2.1.ready _ (uvarint_short hz))

end Go.Proofs.Ytfbnnbbjfjhkjaa
