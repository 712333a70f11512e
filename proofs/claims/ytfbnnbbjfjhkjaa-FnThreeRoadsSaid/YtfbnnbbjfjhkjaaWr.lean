/- The walk of Write of the thin package. -/
import Derived.Test.YtfbnnbbjfjhkjaaZtab
namespace Go.Proofs.Ytfbnnbbjfjhkjaa
open Go.RowKit
set_option linter.unusedVariables false
theorem Try.info2 : (Try.prog.info? 2).map (fun i => (i.zero, i.size, i.bytes)) = some (some (.int .i64 0), 1, 8) := by kernel_rfl
theorem Try.info21 : (Try.prog.info? 21).map (fun i => (i.zero, i.size, i.bytes)) = some (some (.int .i32 0), 1, 4) := by kernel_rfl

/-- An append of integers onto a row of the call's own. -/
theorem append_i64 {w0 w : World} {ops : Array Oper} {rest : List Oper} {o : Oper} {a : Act} {Q : Exit → Act → World → Prop} (hgd : o.guard = none) (s x : Operand)
    (ho : o.op = .call { callee := .builtin .append, args := #[s, x], argTypes := #[46, 46] })
    {v : Value} {l m : List Int} {B : Nat} {A : Option Addr} {k n c : Nat} (hs : a.eval s = v) (hown : w.ownsRow w0.heap.size 2 1 v k (l.map (Value.int .i64))) (hbel : Below w0.heap.size w0 w)
    (hx : a.eval x = .slice A n c) (hr : Is w B A n c .i64 m) (hlim : k + n ≤ 2147483647)
    (h : ∀ A' n' c' w', w'.ownsRow w0.heap.size 2 1 (.slice A' n' c') n' ((l ++ m).map (Value.int .i64)) → Below w0.heap.size w0 w' → w.grownBy w' v.ownBlock → wpList Try.prog ops Q rest (a.put o.dst (.slice A' n' c')) w') : wpList Try.prog ops Q (o :: rest) a w := by
  obtain ⟨i0, hi0, hz0, hz1, hz2⟩ := info_parts Try.info2
  refine wpList_append_reads w hgd s x 46 ho w0.heap.size 2 i0 (.int .i64 0) 1 8 Try.underlying46 hi0 hz0 hz1 hz2 rfl (by decide) v k _ hs hown B A n c _ hx hr.reads (ints_one _ _) (by simp only [maxLen]; omega) (by omega) hbel.size ?_
  intro v' w' hown' hg' _
  obtain ⟨A', c', rfl, -, -⟩ := own_form hown'
  rw [← List.map_append] at hown'
  exact h A' _ c' w' hown' (below_append hbel hown (Nat.le_refl _) hbel.size hg') hg'

/-- An append of integers onto a row of the call's own. -/
theorem append_i32 {w0 w : World} {ops : Array Oper} {rest : List Oper} {o : Oper} {a : Act} {Q : Exit → Act → World → Prop} (hgd : o.guard = none) (s x : Operand)
    (ho : o.op = .call { callee := .builtin .append, args := #[s, x], argTypes := #[47, 47] })
    {v : Value} {l m : List Int} {B : Nat} {A : Option Addr} {k n c : Nat} (hs : a.eval s = v) (hown : w.ownsRow w0.heap.size 21 1 v k (l.map (Value.int .i32))) (hbel : Below w0.heap.size w0 w)
    (hx : a.eval x = .slice A n c) (hr : Is w B A n c .i32 m) (hlim : k + n ≤ 2147483647)
    (h : ∀ A' n' c' w', w'.ownsRow w0.heap.size 21 1 (.slice A' n' c') n' ((l ++ m).map (Value.int .i32)) → Below w0.heap.size w0 w' → w.grownBy w' v.ownBlock → wpList Try.prog ops Q rest (a.put o.dst (.slice A' n' c')) w') : wpList Try.prog ops Q (o :: rest) a w := by
  obtain ⟨i0, hi0, hz0, hz1, hz2⟩ := info_parts Try.info21
  refine wpList_append_reads w hgd s x 47 ho w0.heap.size 21 i0 (.int .i32 0) 1 4 Try.underlying47 hi0 hz0 hz1 hz2 rfl (by decide) v k _ hs hown B A n c _ hx hr.reads (ints_one _ _) (by simp only [maxLen]; omega) (by omega) hbel.size ?_
  intro v' w' hown' hg' _
  obtain ⟨A', c', rfl, -, -⟩ := own_form hown'
  rw [← List.map_append] at hown'
  exact h A' _ c' w' hown' (below_append hbel hown (Nat.le_refl _) hbel.size hg') hg'

set_option maxRecDepth 100000 in
set_option maxHeartbeats 1000000 in
theorem write_any (A0 A2 A3 : Option Addr) (n0 c0 n2 c2 n3 c3 : Nat) (pcs bef beh : List Int) (size q : Int) (w : World)
    (hpcs : Is w w.heap.size A0 n0 c0 .i64 pcs) (hbef : Is w w.heap.size A2 n2 c2 .i32 bef) (hbeh : Is w w.heap.size A3 n3 c3 .i32 beh)
    (hl2 : bef.length = pcs.length) (hl3 : beh.length = pcs.length) (hpos : 0 < pcs.length) (hord : InOrder size q 0 (pcs.zip bef)) (hp0 : pcs[0] = 0) (hq1 : 1 ≤ q) (hq4 : q ≤ 4) (hsz : size ≤ 1073741824) (hlen : pcs.length ≤ 2147483647) :
    Calls Try.prog 27 #[.slice A0 n0 c0, .int .i64 size, .slice A2 n2 c2, .slice A3 n3 c3, .int .i64 q] w
      (BytesPost w (tab (pairs size q 0 (pcs.zip bef)) ++ [0])) := by
  have hb1 := hpcs.alloc (Nat.le_refl _) (.cells #[] 2)
  have HB1 := Lib.hid ((Below.refl w.heap.size w).alloc (Nat.le_refl _) (.cells #[] 2))
  have H33 : Hid (∀ (W : World) A0 A2 A3 n0 c0 n2 c2 n3 c3, Is W W.heap.size A0 n0 c0 .i64 pcs → Is W W.heap.size A2 n2 c2 .i32 bef → Is W W.heap.size A3 n3 c3 .i32 beh → Calls Try.prog 33 #[.slice A0 n0 c0, .int .i64 size, .slice A2 n2 c2, .slice A3 n3 c3, .int .i64 q] W
      (BytesPost W (tab (pairs size q 0 (pcs.zip bef)) ++ [0]))) := Lib.hid fun W A0 A2 A3 n0 c0 n2 c2 n3 c3 g1 g2 g3 => zztable_run A0 A2 A3 n0 c0 n2 c2 n3 c3 pcs bef beh size q W g1 g2 g3 hl2 hl3 hpos hord hp0 hq1 hq4 hsz hlen
  have HBEF := Lib.hid hbef
  have HBEH := Lib.hid hbeh
  have l0 : 0 + n0 ≤ 2147483647 := by have := hpcs.len; omega
  have l2 : 0 + n2 ≤ 2147483647 := by have := hbef.len; omega
  have l3 : 0 + n3 ≤ 2147483647 := by have := hbeh.len; omega
  clear hpcs hbef hbeh hord hp0 hl2 hl3
  generalize tab (pairs size q 0 (pcs.zip bef)) ++ [0] = T at *
  go_enter Try.func27, Try.ntmps27
  go_wp2_with (at_builtin; refine append_i64 (w0 := w) rfl (.tmp 11) (.tmp 12) rfl (l := []) rfl (own_empty w 2 w.heap.size (Nat.le_refl _)) HB1.out rfl hb1 l0 ?_)
  intro A4 n4 c4 w1 hown1 hbel1 _
  have H1 := Lib.hid (Is.of_own hown1)
  have HW1 := Lib.hid hbel1
  have hb2 := ((HBEF.out.below hbel1).more hbel1.size).alloc (Nat.le_refl _) (.cells #[] 21)
  have HB2 := Lib.hid ((Below.refl w1.heap.size w1).alloc (Nat.le_refl _) (.cells #[] 21))
  clear hown1 hbel1 hb1
  go_wp2_with (at_builtin; refine append_i32 (w0 := w1) rfl (.tmp 15) (.tmp 16) rfl (l := []) rfl (own_empty w1 21 w1.heap.size (Nat.le_refl _)) HB2.out rfl hb2 l2 ?_)
  intro A5 n5 c5 w2 hown2 hbel2 _
  have H2 := Lib.hid (Is.of_own hown2)
  have H12 := Lib.hid ((H1.out.below hbel2).more hbel2.size)
  have HW2 := Lib.hid (HW1.out.trans (hbel2.mono HW1.out.size))
  have hb3 := ((HBEH.out.below HW2.out).more HW2.out.size).alloc (Nat.le_refl _) (.cells #[] 21)
  have HB3 := Lib.hid ((Below.refl w2.heap.size w2).alloc (Nat.le_refl _) (.cells #[] 21))
  clear hown2 hbel2 hb2
  go_wp2_with (at_builtin; refine append_i32 (w0 := w2) rfl (.tmp 18) (.tmp 19) rfl (l := []) rfl (own_empty w2 21 w2.heap.size (Nat.le_refl _)) HB3.out rfl hb3 l3 ?_)
  intro A6 n6 c6 w3 hown3 hbel3 _
  have H3 := Lib.hid (Is.of_own hown3)
  have H23 := Lib.hid ((H2.out.below hbel3).more hbel3.size)
  have H13 := Lib.hid ((H12.out.below hbel3).more hbel3.size)
  have HW3 := Lib.hid (HW2.out.trans (hbel3.mono HW2.out.size))
  have HC := Lib.hid (H33.out w3 _ _ _ _ _ _ _ _ _ H13.out H23.out H3.out)
  clear hown3 hbel3 hb3
  go_wp2_with fail
  refine HC.out.mono ?_
  rintro en w4 ⟨A, n, c, rfl, hbs, hbel⟩
  have HR : Hid (BytesPost w T (.returned (.slice A n c)) w4) := Lib.hid ⟨A, n, c, rfl, hbs, HW3.out.trans (hbel.mono HW3.out.size)⟩
  clear hbs hbel
  go_wp2_with fail
  go_ret
  exact HR.out
end Go.Proofs.Ytfbnnbbjfjhkjaa
