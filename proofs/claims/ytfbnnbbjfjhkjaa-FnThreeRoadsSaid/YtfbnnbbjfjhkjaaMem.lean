/- Plain facts on memory for this seat: a slice value that reads as a list of cells (nil let in), a block that is known whole, bytes as cells, an append whose source is any slice. No program is named here. -/
import Derived.Below
import Derived.OneCell
import Derived.OwnWalk
import Derived.RegionTactic
import Derived.Laws.OwnMore
import Derived.Laws.BytesString
import Derived.Maps.AppendAt
import Derived.Deep.AppendLies
import Derived.Deep.Draws
import Derived.Lib.UnsafeStr
import Derived.Lib.Varint
import Derived.Lib.Hide
namespace Go.Proofs.Ytfbnnbbjfjhkjaa
open Go.RowKit

/-- The slice of address A and n elements of 'size' cells holds the cells xs, below block B. -/
def Reads (w : World) (B size : Nat) (A : Option Addr) (n : Nat) (xs : List Value) : Prop :=
  xs.length = n * size ∧ (0 < n → ∃ g o, A = some ⟨g, o, none⟩ ∧ g < B ∧ ∀ j u, xs[j]? = some u → w.cell? ⟨g, o + j, none⟩ = some u)

theorem add_flat (g o j : Nat) : (⟨g, o, none⟩ : Addr).add j = ⟨g, o + j, none⟩ := by
  unfold Addr.add
  split <;> simp_all

section
variable {w w' : World} {B B' size n : Nat} {A : Option Addr} {xs : List Value}
theorem Reads.keep (h : Reads w B size A n xs) (hk : ∀ p : Addr, p.block < B → w'.cell? p = w.cell? p) : Reads w' B size A n xs :=
  ⟨h.1, fun hn => by
    obtain ⟨g, o, e, hb, hc⟩ := h.2 hn
    exact ⟨g, o, e, hb, fun j u hu => (hk _ hb).trans (hc j u hu)⟩⟩
theorem Reads.more (h : Reads w B size A n xs) (hB : B ≤ B') : Reads w B' size A n xs :=
  ⟨h.1, fun hn => by
    obtain ⟨g, o, e, hb, hc⟩ := h.2 hn
    exact ⟨g, o, e, by omega, hc⟩⟩
theorem Reads.below (h : Reads w B size A n xs) (hb : Below B w w') : Reads w' B size A n xs := h.keep fun _ hp => hb.cell hp
theorem Reads.drew (h : Reads w B size A n xs) : Reads w.drew B size A n xs := h
theorem Reads.alloc (h : Reads w B size A n xs) (hB : B ≤ w.heap.size) (o : Obj) : Reads (w.alloc o) B size A n xs := h.keep fun p hp => World.cell?_alloc_lt w o p (by omega)
theorem Reads.setCell (h : Reads w B size A n xs) {p : Addr} (hB : B ≤ p.block) (u : Value) : Reads (w.setCell p u) B size A n xs :=
  h.keep fun q hq => World.cell?_setCell_other w p q u (fun e => by subst e; omega)
theorem Reads.at_ {k : Nat} (h : Reads w B 1 A n xs) (hk : k < n) : ∃ g o u, A = some ⟨g, o, none⟩ ∧ g < B ∧ xs[k]? = some u ∧ w.cell? ⟨g, o + k, none⟩ = some u := by
  obtain ⟨g, o, e, hb, hc⟩ := h.2 (by omega)
  have hl : k < xs.length := by have := h.1; omega
  exact ⟨g, o, xs[k], e, hb, List.getElem?_eq_getElem hl, hc k _ (List.getElem?_eq_getElem hl)⟩
theorem Reads.of_own {base : Nat} {e : TypeId} {c : Nat} (h : w.ownsRow base e size (.slice A n c) n xs) : Reads w w.heap.size size A n xs := by
  refine ⟨h.1, fun hn => ?_⟩
  obtain ⟨g, cap, hv, _, hlt⟩ := h.form hn
  have hA : A = some ⟨g, 0, none⟩ := by injection hv
  subst hA
  exact ⟨g, 0, rfl, hlt, fun j u hu => by
    have := h.cells (g := g) rfl j u hu
    rwa [add_flat] at this⟩
end

/-- Block g is just the cells cs, of element type t, none of them frozen. -/
def Blk (w : World) (g : Nat) (t : TypeId) (cs : Array Value) : Prop := w.heap[g]? = some (.cells cs t (0, 0))

section
variable {w w' : World} {g : Nat} {t : TypeId} {cs : Array Value}
theorem Blk.lt (h : Blk w g t cs) : g < w.heap.size := lt_of_block h
theorem Blk.cell (h : Blk w g t cs) (i : Nat) : w.cell? ⟨g, i, none⟩ = cs[i]? := by
  unfold Blk at h
  simp [World.cell?, h]
theorem Blk.free (h : Blk w g t cs) (i : Nat) : w.frozen? ⟨g, i, none⟩ = false := by
  unfold Blk at h
  simp [World.frozen?, h]
theorem Blk.new (w : World) (t : TypeId) (cs : Array Value) : Blk (w.alloc (.cells cs t)) w.heap.size t cs := heap_alloc_new w _
theorem Blk.drew (h : Blk w g t cs) : Blk w.drew g t cs := h
theorem Blk.alloc (h : Blk w g t cs) (o : Obj) : Blk (w.alloc o) g t cs := (Below.heap_alloc w o g h.lt).trans h
theorem Blk.set_ (h : Blk w g t cs) (i : Nat) (u : Value) : Blk (w.setCell ⟨g, i, none⟩ u) g t (cs.setIfInBounds i u) := by
  unfold Blk at h ⊢
  simp [World.setCell, Array.getElem?_modify, h]
theorem Blk.far (h : Blk w g t cs) {p : Addr} (hp : g ≠ p.block) (u : Value) : Blk (w.setCell p u) g t cs := (Below.heap_setCell w p u g hp).trans h
theorem Blk.below {B : Nat} (h : Blk w g t cs) (hb : Below B w w') (hg : g < B) : Blk w' g t cs := (hb.block g hg).trans h
theorem Blk.grown {row : Option Nat} (h : Blk w g t cs) (hb : w.grownBy w' row) (hg : some g ≠ row) : Blk w' g t cs := (hb.block g h.lt hg).trans h
theorem Blk.ne_ {g' : Nat} {t' : TypeId} {cs' : Array Value} (h : Blk w g t cs) (h' : Blk w g' t' cs') (hne : t ≠ t') : g ≠ g' := by
  rintro rfl
  unfold Blk at h h'
  rw [h] at h'
  injection h' with h'
  injection h' with _ ht
  exact hne ht
end

/-- Bytes in memory: the slice of address A, n bytes and capacity c holds the bytes l, below block B. -/
structure Bs (w : World) (B : Nat) (A : Option Addr) (n c : Nat) (l : List UInt8) : Prop where
  len : l.length = n
  cap : n ≤ c
  big : c ≤ maxLen
  cells : 0 < n → ∃ g o, A = some ⟨g, o, none⟩ ∧ g < B ∧ ∀ j (hj : j < l.length), w.cell? ⟨g, o + j, none⟩ = some (.int .u8 (l[j].toNat : Int))

theorem byteCells_length (l : List UInt8) : (Lib.byteCells l).length = l.length := by simp [Lib.byteCells]
theorem byteCells_append (l m : List UInt8) : Lib.byteCells (l ++ m) = Lib.byteCells l ++ Lib.byteCells m := by simp [Lib.byteCells]
theorem byteCells_one (l : List UInt8) : ∀ u ∈ Lib.byteCells l, u.oneCell' = true := by
  intro u hu
  simp only [Lib.byteCells, List.mem_map] at hu
  obtain ⟨b, _, rfl⟩ := hu
  rfl

section
variable {w w' : World} {B B' n c : Nat} {A : Option Addr} {l : List UInt8}
theorem Bs.reads (h : Bs w B A n c l) : Reads w B 1 A n (Lib.byteCells l) :=
  ⟨by rw [byteCells_length, h.len, Nat.mul_one], fun hn => by
    obtain ⟨g, o, e, hb, hc⟩ := h.cells hn
    refine ⟨g, o, e, hb, fun j u hu => ?_⟩
    simp only [Lib.byteCells, List.getElem?_map, Option.map_eq_some_iff] at hu
    obtain ⟨b, hb, rfl⟩ := hu
    obtain ⟨hj, rfl⟩ := List.getElem?_eq_some_iff.1 hb
    exact hc j hj⟩
theorem Bs.of_reads (h : Reads w B 1 A n (Lib.byteCells l)) (hc : n ≤ c) (hb : c ≤ maxLen) : Bs w B A n c l :=
  ⟨by have := h.1; rw [byteCells_length] at this; omega, hc, hb, fun hn => by
    obtain ⟨g, o, e, hb, hc⟩ := h.2 hn
    refine ⟨g, o, e, hb, fun j hj => hc j _ ?_⟩
    simp [Lib.byteCells, List.getElem?_eq_getElem hj]⟩
theorem Bs.keep (h : Bs w B A n c l) (hk : ∀ p : Addr, p.block < B → w'.cell? p = w.cell? p) : Bs w' B A n c l := .of_reads (h.reads.keep hk) h.cap h.big
theorem Bs.more (h : Bs w B A n c l) (hB : B ≤ B') : Bs w B' A n c l := .of_reads (h.reads.more hB) h.cap h.big
theorem Bs.below (h : Bs w B A n c l) (hb : Below B w w') : Bs w' B A n c l := h.keep fun _ hp => hb.cell hp
theorem Bs.drew (h : Bs w B A n c l) : Bs w.drew B A n c l := h.keep fun _ _ => rfl
theorem Bs.alloc (h : Bs w B A n c l) (hB : B ≤ w.heap.size) (o : Obj) : Bs (w.alloc o) B A n c l := .of_reads (h.reads.alloc hB o) h.cap h.big
theorem Bs.setCell (h : Bs w B A n c l) {p : Addr} (hB : B ≤ p.block) (u : Value) : Bs (w.setCell p u) B A n c l := .of_reads (h.reads.setCell hB u) h.cap h.big
theorem Bs.back (h : Bs w' B A n c l) (hb : Below B w w') : Bs w B A n c l := h.keep fun _ hp => (hb.cell hp).symm
theorem Bs.over (h : Bs w' B A n c l) (hb : Below B w w') {w2 : World} (hb2 : Below B w w2) : Bs w2 B A n c l := (h.back hb).below hb2
/-- Where there is a byte, the address is known. -/
theorem Bs.form {b : UInt8} {r : List UInt8} (h : Bs w B A n c (b :: r)) : ∃ g o, A = some ⟨g, o, none⟩ ∧ g < B ∧ n = r.length + 1 ∧ w.cell? ⟨g, o, none⟩ = some (.int .u8 (b.toNat : Int)) := by
  have hl := h.len
  simp only [List.length_cons] at hl
  obtain ⟨g, o, e, hb, hc⟩ := h.cells (by omega)
  exact ⟨g, o, e, hb, by omega, hc 0 (by simp)⟩
/-- A cut 's[k:]'. -/
theorem Bs.cut {k : Nat} (h : Bs w B A n c l) (hk : k ≤ n) (A' : Option Addr) (hA : ∀ g o, A = some ⟨g, o, none⟩ → k < n → A' = some ⟨g, o + k, none⟩) : Bs w B A' (n - k) (c - k) (l.drop k) := by
  have hl := h.len
  have hc := h.cap
  have hb := h.big
  refine ⟨by rw [List.length_drop]; omega, by omega, by omega, fun hn => ?_⟩
  obtain ⟨g, o, e, hB, hcell⟩ := h.cells (by omega)
  refine ⟨g, o + k, hA g o e (by omega), hB, fun j hj => ?_⟩
  rw [List.length_drop] at hj
  rw [List.getElem_drop, Nat.add_assoc]
  exact hcell (k + j) (by omega)
/-- The cut 's[1:]' where the address is known. -/
theorem Bs.tail {g o : Nat} {b : UInt8} {r : List UInt8} (h : Bs w B (some ⟨g, o, none⟩) n c (b :: r)) {A' : Option Addr} {n' c' : Nat} (hn : n' = r.length) (hc : c' = c - 1)
    (hA : 1 < c → A' = some ⟨g, o + 1, none⟩) : Bs w B A' n' c' r := by
  have hl := h.len
  simp only [List.length_cons] at hl
  have hcap := h.cap
  have := h.cut (k := 1) (by omega) A' (fun g' o' e h1 => by
    injection e with e
    injection e with e1 e2
    subst e1 e2
    exact hA (by omega))
  rw [show n - 1 = n' by omega, ← hc] at this
  exact this
theorem Bs.of_own {base : Nat} (h : w.ownsRow base 5 1 (.slice A n c) n (Lib.byteCells l)) : Bs w w.heap.size A n c l := by
  refine .of_reads (Reads.of_own h) ?_ ?_
  · rcases h.2 with ⟨e, _⟩ | ⟨g, cap, cur, e, _, _, h1, h2, _⟩
    · injection e with _ e1 e2; subst e1; exact Nat.zero_le _
    · injection e with _ _ e2; subst e2; exact h1
  · rcases h.2 with ⟨e, _⟩ | ⟨g, cap, cur, e, _, _, h1, h2, _⟩
    · injection e with _ e1 e2; subst e2; exact Nat.zero_le _
    · injection e with _ _ e2; subst e2; exact h2
end

/-- What is owned is a slice: its address and capacity by name. -/
theorem own_form {w : World} {base : Nat} {e : TypeId} {size : Nat} {v : Value} {n : Nat} {xs : List Value} (h : w.ownsRow base e size v n xs) :
    ∃ A c, v = .slice A n c ∧ n ≤ c ∧ c ≤ maxLen := by
  rcases h.2 with ⟨rfl, rfl⟩ | ⟨g, cap, cur, rfl, _, _, h1, h2, _⟩
  · exact ⟨none, 0, rfl, Nat.le_refl _, Nat.zero_le _⟩
  · exact ⟨_, cap, rfl, h1, h2⟩

theorem ownsRow_below {w w' : World} {base B : Nat} {e : TypeId} {size : Nat} {v : Value} {n : Nat} {xs : List Value} (h : w.ownsRow base e size v n xs) (hb : Below B w w') (hv : ∀ g, v.ownBlock = some g → g < B) :
    w'.ownsRow base e size v n xs := by
  obtain ⟨h1, h2⟩ := h
  refine ⟨h1, ?_⟩
  rcases h2 with h2 | ⟨g, cap, cur, rfl, hg, hh, r⟩
  · exact .inl h2
  · exact .inr ⟨g, cap, cur, rfl, hg, by rw [hb.block g (hv g rfl)]; exact hh, r⟩
theorem ownsRow_base {w : World} {base base' : Nat} {e : TypeId} {size : Nat} {v : Value} {n : Nat} {xs : List Value} (h : w.ownsRow base e size v n xs) (hb : base' ≤ base) : w.ownsRow base' e size v n xs := by
  obtain ⟨h1, h2⟩ := h
  refine ⟨h1, ?_⟩
  rcases h2 with h2 | ⟨g, cap, cur, rfl, hg, r⟩
  · exact .inl h2
  · exact .inr ⟨g, cap, cur, rfl, by omega, r⟩
theorem own_bytes {w : World} {base : Nat} {v : Value} {n : Nat} {l : List UInt8} (h : w.ownsRow base 5 1 v n (Lib.byteCells l)) : n = l.length := by
  have := h.1
  rw [byteCells_length] at this
  omega

/-! An append onto a row of the call's own, whatever the source. -/
section
variable {P : Program} (w : World)

theorem run_append_of_nil (base : Nat) (t ty e : TypeId) (i : TypeInfo) (size : Nat) (ht : P.underlying t = some (.slice e)) (hi : P.info? e = some i)
    (v : Value) (n : Nat) (xs : List Value) (hown : w.ownsRow base e size v n xs) (c : Nat) : (Builtin.append_ #[t, t] ty #[v, .slice none 0 c]).run P w = .ok v w := by
  rcases hown.2 with ⟨rfl, rfl⟩ | ⟨g, cap, cur, rfl, _, _, hnc, _⟩
  · simp [Builtin.append_, run_underlying ht, sizeOf, typeInfo, hi, Builtin.lenOf, Builtin.firstCells]
  · simp [Builtin.append_, run_underlying ht, sizeOf, typeInfo, hi, Builtin.lenOf, Builtin.firstCells, hnc, storeCells]

theorem run_append_reads (base : Nat) (t ty e : TypeId) (i : TypeInfo) (z : Value) (size bytes : Nat) (ht : P.underlying t = some (.slice e)) (hi : P.info? e = some i) (hz : i.zero = some z)
    (hsize : i.size = size) (hby : i.bytes = bytes) (hzs : z.cells.size = size) (hsz : 0 < size)
    (v : Value) (n : Nat) (xs : List Value) (hown : w.ownsRow base e size v n xs)
    (B : Nat) (A : Option Addr) (m c : Nat) (news : List Value) (hr : Reads w B size A m news) (h1 : ∀ u ∈ news, u.oneCell' = true)
    (h63 : n + m ≤ maxLen) (hbytes : (n + m) * bytes ≤ 140737488355328) (hbase : base ≤ w.heap.size) :
    ∃ v' w', (Builtin.append_ #[t, t] ty #[v, .slice A m c]).run P w = .ok v' w' ∧ w'.ownsRow base e size v' (n + m) (xs ++ news) ∧ w.grownBy w' v.ownBlock ∧
      (v'.ownBlock = v.ownBlock ∨ v'.ownBlock = some w.heap.size) := by
  rcases A with _ | ad
  · have hm : m = 0 := by
      rcases Nat.eq_zero_or_pos m with h0 | h0
      · exact h0
      · obtain ⟨_, _, h, _⟩ := hr.2 h0
        cases h
    subst hm
    have hn : news = [] := List.eq_nil_of_length_eq_zero (by simpa using hr.1)
    subst hn
    exact ⟨v, w, run_append_of_nil w base t ty e i size ht hi v n xs hown c, by simpa using hown, World.grownBy.refl w _, .inl rfl⟩
  · have hcells : ∀ j u, news[j]? = some u → w.cell? (ad.add j) = some u := by
      intro j u hu
      rcases Nat.eq_zero_or_pos m with h0 | h0
      · subst h0
        have hn : news = [] := List.eq_nil_of_length_eq_zero (by simpa using hr.1)
        subst hn
        simp at hu
      · obtain ⟨g, o, h, _, hc⟩ := hr.2 h0
        injection h with h
        subst h
        rw [add_flat]
        exact hc j u hu
    obtain ⟨v', w', hrun, h2, h3, _, h5⟩ := run_append_own_at (P := P) w base t ty e i z size bytes ht hi hz hsize hby hzs hsz v n xs hown ad m c news hr.1 hcells h1 h63 hbytes hbase
    exact ⟨v', w', hrun, h2, h3, h5⟩

/-- The operation: the row's new value v', the world behind it w'. -/
theorem wpList_append_reads {ops : Array Oper} {rest : List Oper} {o : Oper} {a : Act} {Q : Exit → Act → World → Prop} (hgd : o.guard = none) (s x : Operand) (t : TypeId)
    (ho : o.op = .call { callee := .builtin .append, args := #[s, x], argTypes := #[t, t] })
    (base : Nat) (e : TypeId) (i : TypeInfo) (z : Value) (size bytes : Nat) (ht : P.underlying t = some (.slice e)) (hi : P.info? e = some i) (hz : i.zero = some z)
    (hsize : i.size = size) (hby : i.bytes = bytes) (hzs : z.cells.size = size) (hsz : 0 < size)
    (v : Value) (n : Nat) (xs : List Value) (hs : a.eval s = v) (hown : w.ownsRow base e size v n xs)
    (B : Nat) (A : Option Addr) (m c : Nat) (news : List Value) (hx : a.eval x = .slice A m c) (hr : Reads w B size A m news) (h1 : ∀ u ∈ news, u.oneCell' = true)
    (h63 : n + m ≤ maxLen) (hbytes : (n + m) * bytes ≤ 140737488355328) (hbase : base ≤ w.heap.size)
    (h : ∀ v' w', w'.ownsRow base e size v' (n + m) (xs ++ news) → w.grownBy w' v.ownBlock → (v'.ownBlock = v.ownBlock ∨ v'.ownBlock = some w.heap.size) → wpList P ops Q rest (a.put o.dst v') w') : wpList P ops Q (o :: rest) a w :=
  wpList_plain hgd fun K hK => by
    obtain ⟨v', w', hrun, h2, h3, h4⟩ := run_append_reads (P := P) w base t o.type e i z size bytes ht hi hz hsize hby hzs hsz v n xs hown B A m c news hr h1 h63 hbytes hbase
    unfold Oper.wp execOp
    simp only [ho, resolve, invoke, builtin, Sem.run_bind, Sem.run_pure, Result.andThen_ok, List.map_toArray, List.map_cons, List.map_nil, hs, hx, hrun]
    exact hK _ _ (h v' w' h2 h3 h4)
end

theorem below_drewN {B : Nat} {a w : World} (h : Below B a w) (n : Nat) : Below B a (w.drewN n) := ⟨h.os, h.tape, h.output, h.size, h.block⟩
/-- Below, behind an append onto a row of the call's own. -/
theorem below_append {B base : Nat} {a w w' : World} {e : TypeId} {size : Nat} {v : Value} {n : Nat} {xs : List Value} (h : Below B a w) (hown : w.ownsRow base e size v n xs) (hb : B ≤ base) (hBs : B ≤ w.heap.size) (hg : w.grownBy w' v.ownBlock) :
    Below B a w' :=
  h.grown hg hBs fun k hk => Nat.le_trans hb (hown.lt k hk).1

end Go.Proofs.Ytfbnnbbjfjhkjaa
