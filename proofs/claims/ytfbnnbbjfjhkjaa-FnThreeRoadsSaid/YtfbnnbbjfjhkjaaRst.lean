/- The memory of ZZRead in its loop: the iterator's block and three rows of the call's own; an append onto each of them, at a step of a region that draws its order. -/
import Derived.Test.YtfbnnbbjfjhkjaaInit
import Derived.Test.YtfbnnbbjfjhkjaaWr
import Derived.Deep.AppendLies
namespace Go.Proofs.Ytfbnnbbjfjhkjaa
open Go.RowKit
set_option linter.unusedVariables false

theorem Try.info22 : (Try.prog.info? 22).map (fun i => (i.zero, i.size, i.bytes)) = some (some (.int .u32 0), 1, 4) := by kernel_rfl

/-- A row of integers of the call's own, of element type e. -/
def Row (w : World) (g : Nat) (e : TypeId) (k : IntKind) (v : Value) (l : List Int) : Prop := w.ownsRow (g + 1) e 1 v l.length (l.map (Value.int k))
/-- Two values own no block together. -/
def Apart (v v' : Value) : Prop := ∀ b, v.ownBlock = some b → v'.ownBlock ≠ some b

/-- The memory: news: slices of one element that were made and are still to be appended (block, element type, element). -/
structure St (w0 : World) (B g : Nat) (cells : Array Value) (v4 v5 v6 : Value) (l4 l5 l6 : List Int) (news : List (Nat × TypeId × Value)) (w : World) : Prop where
  bel : Below B w0 w
  le : B ≤ g
  blk : Blk w g 94 cells
  o4 : Row w g 21 .i32 v4 l4
  o5 : Row w g 22 .u32 v5 l5
  o6 : Row w g 22 .u32 v6 l6
  a45 : Apart v4 v5
  a46 : Apart v4 v6
  a56 : Apart v5 v6
  nw : ∀ x ∈ news, Blk w x.1 x.2.1 #[x.2.2] ∧ v4.ownBlock ≠ some x.1 ∧ v5.ownBlock ≠ some x.1 ∧ v6.ownBlock ≠ some x.1

section
variable {w0 w : World} {B g : Nat} {cells : Array Value} {v4 v5 v6 : Value} {l4 l5 l6 : List Int} {news : List (Nat × TypeId × Value)}
theorem Row.ne {e : TypeId} {k : IntKind} {v : Value} {l : List Int} (h : Row w g e k v l) {b : Nat} (hb : w.heap.size ≤ b) : v.ownBlock ≠ some b := fun e => by
  have := (h.lt b e).2
  omega
theorem Row.ne_ {e : TypeId} {k : IntKind} {v : Value} {l : List Int} (h : Row w g e k v l) {b : Nat} (hb : b ≤ g) : v.ownBlock ≠ some b := fun e => by
  have := (h.lt b e).1
  omega
theorem Row.kept {e : TypeId} {k : IntKind} {v : Value} {l : List Int} {w' : World} (h : Row w g e k v l) {row : Option Nat} (hg : w.grownBy w' row) (hne : ∀ b, row = some b → v.ownBlock ≠ some b) : Row w' g e k v l := by
  refine World.ownsRow.kept h hg ?_
  cases row with
  | none => cases hv : v.ownBlock <;> simp
  | some b => exact .inr (hne b rfl)
theorem Apart.symm {v v' : Value} (h : Apart v v') : Apart v' v := fun b h1 h2 => h b h2 h1
theorem St.size (h : St w0 B g cells v4 v5 v6 l4 l5 l6 news w) : g + 1 ≤ w.heap.size := h.blk.lt
theorem St.drew (h : St w0 B g cells v4 v5 v6 l4 l5 l6 news w) : St w0 B g cells v4 v5 v6 l4 l5 l6 news w.drew :=
  ⟨⟨h.bel.os, h.bel.tape, h.bel.output, h.bel.size, h.bel.block⟩, h.le, h.blk, h.o4, h.o5, h.o6, h.a45, h.a46, h.a56, h.nw⟩
theorem St.drewN (h : St w0 B g cells v4 v5 v6 l4 l5 l6 news w) (n : Nat) : St w0 B g cells v4 v5 v6 l4 l5 l6 news (w.drewN n) :=
  ⟨⟨h.bel.os, h.bel.tape, h.bel.output, h.bel.size, h.bel.block⟩, h.le, h.blk, h.o4, h.o5, h.o6, h.a45, h.a46, h.a56, h.nw⟩
theorem St.none_ (h : St w0 B g cells v4 v5 v6 l4 l5 l6 news w) : St w0 B g cells v4 v5 v6 l4 l5 l6 [] w :=
  ⟨h.bel, h.le, h.blk, h.o4, h.o5, h.o6, h.a45, h.a46, h.a56, fun _ hx => by cases hx⟩
/-- A slice of one element is made. -/
theorem St.build (h : St w0 B g cells v4 v5 v6 l4 l5 l6 news w) (t : TypeId) (u : Value) {b : Nat} (hb : w.heap.size = b) : St w0 B g cells v4 v5 v6 l4 l5 l6 ((b, t, u) :: news) (w.alloc (.cells #[u] t)) := by
  have hs := h.size
  have hle := h.le
  refine ⟨h.bel.alloc (by omega) _, h.le, h.blk.alloc _, World.ownsRow.alloc h.o4 _, World.ownsRow.alloc h.o5 _, World.ownsRow.alloc h.o6 _, h.a45, h.a46, h.a56, fun x hx => ?_⟩
  rcases List.mem_cons.1 hx with rfl | hx
  · subst hb
    exact ⟨Blk.new w t #[u], h.o4.ne (Nat.le_refl _), h.o5.ne (Nat.le_refl _), h.o6.ne (Nat.le_refl _)⟩
  · obtain ⟨k1, k2⟩ := h.nw x hx
    exact ⟨k1.alloc _, k2⟩
theorem St.build1 {t1 : TypeId} {u1 : Value} (h : St w0 B g cells v4 v5 v6 l4 l5 l6 news w) : St w0 B g cells v4 v5 v6 l4 l5 l6 ((w.heap.size, t1, u1) :: news) (w.alloc (.cells #[u1] t1)) := h.build t1 u1 rfl
theorem St.build2 {t1 t2 : TypeId} {u1 u2 : Value} (h : St w0 B g cells v4 v5 v6 l4 l5 l6 news w) :
    St w0 B g cells v4 v5 v6 l4 l5 l6 ((w.heap.size + 1, t2, u2) :: (w.heap.size, t1, u1) :: news) ((w.alloc (.cells #[u1] t1)).alloc (.cells #[u2] t2)) := h.build1.build t2 u2 (by simp)
theorem St.build3 {t1 t2 t3 : TypeId} {u1 u2 u3 : Value} (h : St w0 B g cells v4 v5 v6 l4 l5 l6 news w) :
    St w0 B g cells v4 v5 v6 l4 l5 l6 ((w.heap.size + 1 + 1, t3, u3) :: (w.heap.size + 1, t2, u2) :: (w.heap.size, t1, u1) :: news) (((w.alloc (.cells #[u1] t1)).alloc (.cells #[u2] t2)).alloc (.cells #[u3] t3)) := h.build2.build t3 u3 (by simp)
/-- A write to the iterator's block. -/
theorem St.only (h : St w0 B g cells v4 v5 v6 l4 l5 l6 [] w) {w' : World} {cells' : Array Value} (ho : Only g w w') (hb : Blk w' g 94 cells') : St w0 B g cells' v4 v5 v6 l4 l5 l6 [] w' := by
  have hg : w.grownBy w' (some g) := ⟨ho.1.os, ho.1.tape, ho.1.output, ho.1.size, fun k hk hne => ho.2.2 k fun e => hne (by rw [e])⟩
  refine ⟨h.bel.trans (ho.1.mono h.le), h.le, hb, h.o4.kept hg ?_, h.o5.kept hg ?_, h.o6.kept hg ?_, h.a45, h.a46, h.a56, fun _ hx => by cases hx⟩
  all_goals
    intro b hb
    injection hb with hb
    subst hb
  · exact h.o4.ne_ (Nat.le_refl _)
  · exact h.o5.ne_ (Nat.le_refl _)
  · exact h.o6.ne_ (Nat.le_refl _)

/-- Where a row comes to lie behind an append. -/
def At (w : World) (v v' : Value) : Prop := v'.ownBlock = v.ownBlock ∨ v'.ownBlock = some w.heap.size
theorem At.apart {v v' u : Value} {e : TypeId} {k : IntKind} {l : List Int} (h : At w v v') (ha : Apart v u) (hu : Row w g e k u l) : Apart v' u := fun b h1 h2 => by
  rcases h with h | h
  · exact ha b (h.symm.trans h1) h2
  · rw [h] at h1
    injection h1 with h1
    exact hu.ne (Nat.le_of_eq h1) h2
theorem At.ne {v v' : Value} {b : Nat} (h : At w v v') (hv : v.ownBlock ≠ some b) (hb : b < w.heap.size) : v'.ownBlock ≠ some b := fun h1 => by
  rcases h with h | h
  · exact hv (h.symm.trans h1)
  · rw [h] at h1
    injection h1 with h1
    omega

theorem St.app4 (h : St w0 B g cells v4 v5 v6 l4 l5 l6 news w) {w1 : World} {v' : Value} {l' : List Int} (hown : Row w1 g 21 .i32 v' l') (hg : w.grownBy w1 v4.ownBlock) (hat : At w v4 v') : St w0 B g cells v' v5 v6 l' l5 l6 news w1 := by
  have hs := h.size
  have hle := h.le
  refine ⟨h.bel.grown hg (by omega) fun k hk => Nat.le_trans (by omega) (h.o4.lt k hk).1, h.le, h.blk.grown hg (fun e => h.o4.ne_ (Nat.le_refl _) e.symm), hown, h.o5.kept hg h.a45, h.o6.kept hg h.a46, hat.apart h.a45 h.o5, hat.apart h.a46 h.o6, h.a56, fun x hx => ?_⟩
  obtain ⟨k1, k2, k3, k4⟩ := h.nw x hx
  exact ⟨k1.grown hg (fun e => k2 e.symm), hat.ne k2 k1.lt, k3, k4⟩
theorem St.app5 (h : St w0 B g cells v4 v5 v6 l4 l5 l6 news w) {w1 : World} {v' : Value} {l' : List Int} (hown : Row w1 g 22 .u32 v' l') (hg : w.grownBy w1 v5.ownBlock) (hat : At w v5 v') : St w0 B g cells v4 v' v6 l4 l' l6 news w1 := by
  have hs := h.size
  have hle := h.le
  refine ⟨h.bel.grown hg (by omega) fun k hk => Nat.le_trans (by omega) (h.o5.lt k hk).1, h.le, h.blk.grown hg (fun e => h.o5.ne_ (Nat.le_refl _) e.symm), h.o4.kept hg h.a45.symm, hown, h.o6.kept hg h.a56, (hat.apart h.a45.symm h.o4).symm, h.a46, hat.apart h.a56 h.o6, fun x hx => ?_⟩
  obtain ⟨k1, k2, k3, k4⟩ := h.nw x hx
  exact ⟨k1.grown hg (fun e => k3 e.symm), k2, hat.ne k3 k1.lt, k4⟩
theorem St.app6 (h : St w0 B g cells v4 v5 v6 l4 l5 l6 news w) {w1 : World} {v' : Value} {l' : List Int} (hown : Row w1 g 22 .u32 v' l') (hg : w.grownBy w1 v6.ownBlock) (hat : At w v6 v') : St w0 B g cells v4 v5 v' l4 l5 l' news w1 := by
  have hs := h.size
  have hle := h.le
  refine ⟨h.bel.grown hg (by omega) fun k hk => Nat.le_trans (by omega) (h.o6.lt k hk).1, h.le, h.blk.grown hg (fun e => h.o6.ne_ (Nat.le_refl _) e.symm), h.o4.kept hg h.a46.symm, h.o5.kept hg h.a56.symm, hown, h.a45, (hat.apart h.a46.symm h.o4).symm, (hat.apart h.a56.symm h.o5).symm, fun x hx => ?_⟩
  obtain ⟨k1, k2, k3, k4⟩ := h.nw x hx
  exact ⟨k1.grown hg (fun e => k4 e.symm), k2, k3, hat.ne k4 k1.lt⟩

/-- An append of one element onto a row, at a step of a region that draws. -/
theorem step_row {ops : Array Oper} {o : Oper} {a : Act} {K : Act → World → Prop} {Q : Exit → Act → World → Prop} {E : Prop} {t e : TypeId} {k : IntKind} {z : Value} (ht : Try.prog.underlying t = some (.slice e)) (hi : (Try.prog.info? e).map (fun i => (i.zero, i.size, i.bytes)) = some (some (.int k 0), 1, 4))
    (hgd : o.guard = none) (s x : Operand) (ho : o.op = .call { callee := .builtin .append, args := #[s, x], argTypes := #[t, t] }) {v : Value} {l : List Int} {b : Nat} {y : Int}
    (hs : a.eval s = v) (hx : a.eval x = .slice (some ⟨b, 0, none⟩) 1 1) (hrow : Row w g e k v l) (hsz : g + 1 ≤ w.heap.size) (hblk : Blk w b e #[.int k y]) (hlim : l.length + 1 ≤ 4294967296)
    (h : ∀ v' w1, Row w1 g e k v' (l ++ [y]) → w.grownBy w1 v.ownBlock → At w v v' → K (a.put o.dst v') w1) :
    if Region.wanted o (yielded ops a.tmps) = true then Oper.wp Try.prog o a w K Q else E := by
  obtain ⟨i0, hi0, hz0, hz1, hz2⟩ := info_parts hi
  refine step_append_lies w hgd s x t ho (g + 1) e i0 (.int k 0) 1 4 ht hi0 hz0 hz1 hz2 rfl (by decide) v l.length (l.map (Value.int k)) hs hrow ⟨b, 0, none⟩ 1 1 [.int k y] hx rfl
    (World.news_of_block (cs := #[.int k y]) (t := e) (fr := (0, 0)) hblk) (by simp [Value.oneCell']) (by omega) (by simp only [maxLen]; omega) (by omega) hsz w.heap.size rfl ?_
  intro g' cap w1 hown hg hat hlt
  refine h _ w1 ?_ hg ?_
  · unfold Row
    rw [List.map_append, List.length_append]
    exact hown
  · rcases hat with hat | rfl
    · exact .inl hat.symm
    · exact .inr rfl

/-- The three appends of ZZRead's round. -/
theorem step4 {ops : Array Oper} {o : Oper} {a : Act} {K : Act → World → Prop} {Q : Exit → Act → World → Prop} {E : Prop} {y : Int} (hst : St w0 B g cells v4 v5 v6 l4 l5 l6 news w) (hlim : l4.length + 1 ≤ 4294967296) (hgd : o.guard = none)
    (ho : o.op = .call { callee := .builtin .append, args := #[.tmp 20, .tmp 25], argTypes := #[47, 47] })
    (hs : a.eval (.tmp 20) = v4) (hx : ∃ b, a.eval (.tmp 25) = .slice (some ⟨b, 0, none⟩) 1 1 ∧ (b, 21, Value.int .i32 y) ∈ news)
    (h : ∀ v' w1, St w0 B g cells v' v5 v6 (l4 ++ [y]) l5 l6 news w1 → K (a.put o.dst v') w1) :
    if Region.wanted o (yielded ops a.tmps) = true then Oper.wp Try.prog o a w K Q else E := by
  obtain ⟨b, hx, hm⟩ := hx
  exact step_row (w := w) (g := g) (e := 21) (k := .i32) (z := .int .i32 0) Try.underlying47 Try.info21 hgd _ _ ho hs hx hst.o4 hst.size (hst.nw _ hm).1 hlim fun v' w1 h1 h2 h3 => h v' w1 (hst.app4 h1 h2 h3)
theorem step5 {ops : Array Oper} {o : Oper} {a : Act} {K : Act → World → Prop} {Q : Exit → Act → World → Prop} {E : Prop} {y : Int} (hst : St w0 B g cells v4 v5 v6 l4 l5 l6 news w) (hlim : l5.length + 1 ≤ 4294967296) (hgd : o.guard = none)
    (ho : o.op = .call { callee := .builtin .append, args := #[.tmp 27, .tmp 32], argTypes := #[61, 61] })
    (hs : a.eval (.tmp 27) = v5) (hx : ∃ b, a.eval (.tmp 32) = .slice (some ⟨b, 0, none⟩) 1 1 ∧ (b, 22, Value.int .u32 y) ∈ news)
    (h : ∀ v' w1, St w0 B g cells v4 v' v6 l4 (l5 ++ [y]) l6 news w1 → K (a.put o.dst v') w1) :
    if Region.wanted o (yielded ops a.tmps) = true then Oper.wp Try.prog o a w K Q else E := by
  obtain ⟨b, hx, hm⟩ := hx
  exact step_row (w := w) (g := g) (e := 22) (k := .u32) (z := .int .u32 0) Try.underlying61 Try.info22 hgd _ _ ho hs hx hst.o5 hst.size (hst.nw _ hm).1 hlim fun v' w1 h1 h2 h3 => h v' w1 (hst.app5 h1 h2 h3)
theorem step6 {ops : Array Oper} {o : Oper} {a : Act} {K : Act → World → Prop} {Q : Exit → Act → World → Prop} {E : Prop} {y : Int} (hst : St w0 B g cells v4 v5 v6 l4 l5 l6 news w) (hlim : l6.length + 1 ≤ 4294967296) (hgd : o.guard = none)
    (ho : o.op = .call { callee := .builtin .append, args := #[.tmp 34, .tmp 39], argTypes := #[61, 61] })
    (hs : a.eval (.tmp 34) = v6) (hx : ∃ b, a.eval (.tmp 39) = .slice (some ⟨b, 0, none⟩) 1 1 ∧ (b, 22, Value.int .u32 y) ∈ news)
    (h : ∀ v' w1, St w0 B g cells v4 v5 v' l4 l5 (l6 ++ [y]) news w1 → K (a.put o.dst v') w1) :
    if Region.wanted o (yielded ops a.tmps) = true then Oper.wp Try.prog o a w K Q else E := by
  obtain ⟨b, hx, hm⟩ := hx
  exact step_row (w := w) (g := g) (e := 22) (k := .u32) (z := .int .u32 0) Try.underlying61 Try.info22 hgd _ _ ho hs hx hst.o6 hst.size (hst.nw _ hm).1 hlim fun v' w1 h1 h2 h3 => h v' w1 (hst.app6 h1 h2 h3)
theorem St.c412 {p : Value} {pc nx q v : Int} {st dn : Bool} (h : St w0 B g (itCells p pc nx q v st dn) v4 v5 v6 l4 l5 l6 news w) :
    w.cell? ⟨g, 4, none⟩ = some (.int .i32 v) ∧ w.cell? ⟨g, 1, none⟩ = some (.int .u32 pc) ∧ w.cell? ⟨g, 2, none⟩ = some (.int .u32 nx) := ⟨h.blk.cell 4, h.blk.cell 1, h.blk.cell 2⟩
end
end Go.Proofs.Ytfbnnbbjfjhkjaa
