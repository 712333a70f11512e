/- The walks of ReadVarint and Value of the thin package, and an append of bytes. -/
import Derived.Test.YtfbnnbbjfjhkjaaDoors
import Derived.Test.YtfbnnbbjfjhkjaaPcv
import Derived.Test.YtfbnnbbjfjhkjaaVint
namespace Go.Proofs.Ytfbnnbbjfjhkjaa
open Go.RowKit

/-- '[]byte{}' is a row of the call's own, with nothing in it. -/
theorem own_empty (w : World) (e : TypeId) (base : Nat) (h : base ≤ w.heap.size) : (w.alloc (.cells #[] e)).ownsRow base e 1 (.slice (some ⟨w.heap.size, 0, none⟩) 0 0) 0 [] :=
  World.ownsRow_lit w #[] 0 h (Nat.zero_le _) rfl

/-- An append of bytes onto a row of the call's own (the call began at w0). -/
theorem append_bytes {w0 w : World} {ops : Array Oper} {rest : List Oper} {o : Oper} {a : Act} {Q : Exit → Act → World → Prop} (hgd : o.guard = none) (s x : Operand)
    (ho : o.op = .call { callee := .builtin .append, args := #[s, x], argTypes := #[23, 23] })
    {v : Value} {l m : List UInt8} {B : Nat} {A : Option Addr} {k n c : Nat} (hs : a.eval s = v) (hown : w.ownsRow w0.heap.size 5 1 v k (Lib.byteCells l)) (hbel : Below w0.heap.size w0 w)
    (hx : a.eval x = .slice A n c) (hr : Bs w B A n c m) (hlim : k + n ≤ 140737488355328)
    (h : ∀ A' n' c' w', w'.ownsRow w0.heap.size 5 1 (.slice A' n' c') n' (Lib.byteCells (l ++ m)) → Below w0.heap.size w0 w' → w.grownBy w' v.ownBlock → wpList Try.prog ops Q rest (a.put o.dst (.slice A' n' c')) w') : wpList Try.prog ops Q (o :: rest) a w := by
  obtain ⟨i0, hi0, hz0, hz1, hz2⟩ := info_parts Try.info5
  refine wpList_append_reads w hgd s x 23 ho w0.heap.size 5 i0 (.int .u8 0) 1 1 Try.underlying23 hi0 hz0 hz1 hz2 rfl (by decide) v k _ hs hown B A n c _ hx hr.reads (byteCells_one _) (by simp only [maxLen]; omega) (by omega) hbel.size ?_
  intro v' w' hown' hg' _
  obtain ⟨A', c', rfl, -, -⟩ := own_form hown'
  rw [← byteCells_append] at hown'
  exact h A' _ c' w' hown' (below_append hbel hown (Nat.le_refl _) hbel.size hg') hg'

set_option maxRecDepth 100000 in
set_option maxHeartbeats 400000 in
theorem readVarint_any (A : Option Addr) (n c : Nat) (e rest : List UInt8) (y : Nat) (w : World)
    (hb : Bs w w.heap.size A n c (e ++ rest)) (he : Grp e) (hl : e.length ≤ 1000) (hy : y = val e % 4294967296) (hn : n ≤ 140737488355328) :
    Calls Try.prog 14 #[.slice A n c] w (NumPost w y rest) := by
  have hb1 := hb.alloc (Nat.le_refl _) (.cells #[] 5)
  have b1 := (Below.refl w.heap.size w).alloc (Nat.le_refl _) (.cells #[] 5)
  have HY := Lib.hid hy
  have HB1 := Lib.hid b1
  clear hy hb b1
  go_enter Try.func14, Try.ntmps14
  go_wp2_with (at_builtin; refine append_bytes (w0 := w) rfl _ _ rfl (l := []) rfl (own_empty w 5 w.heap.size (Nat.le_refl _)) HB1.out rfl hb1 ?c1 ?_)
  case c1 => omega
  intro A1 n1 c1 w1 hown1 hbel1 _
  have HO := Lib.hid hown1
  have HB2 := Lib.hid hbel1
  clear hown1 hbel1 hb1
  have H := Lib.hid (zzreadvarint_any A1 n1 c1 e rest y w1 (Bs.of_own HO.out) he hl HY.out)
  go_wp2_with fail
  refine H.out.mono ?_
  rintro en w2 ⟨A2, n2, c2, rfl, hb2, hbel2⟩
  have HR : Hid (NumPost w y rest (.returned (.tuple #[.int .u32 (y : Int), .slice A2 n2 c2])) w2) := Lib.hid ⟨A2, n2, c2, rfl, hb2, HB2.out.trans (hbel2.mono HB2.out.size)⟩
  clear hb2 hbel2
  go_wp2_with fail
  go_ret2
  exact HR.out

/-- What 'Value' and 'ZZValue' take for a table. -/
theorem value_any (A : Option Addr) (n c q entry target : Nat) (ahead rest : List UInt8) (r : List (Nat × Nat)) (w : World)
    (hb : Bs w w.heap.size A n c (ahead ++ (tab r ++ 0 :: rest))) (hfit : Fit q true entry r) (ha : ahead.length < 4294967296) (he : entry < 18446744073709551616) (hn : n ≤ 140737488355328) :
    Calls Try.prog 22 #[.slice A n c, .int .u32 (q : Int), .int .u32 (ahead.length : Int), .int .u64 (entry : Int), .int .u64 (target : Int)] w
      (IsPost w (.int .i32 (look q target entry (-1) r))) := by
  have hb1 := hb.alloc (Nat.le_refl _) (.cells #[] 5)
  have b1 := (Below.refl w.heap.size w).alloc (Nat.le_refl _) (.cells #[] 5)
  have HB1 := Lib.hid b1
  have HF := Lib.hid hfit
  have HE := Lib.hid he
  have HA := Lib.hid ha
  clear hb b1 hfit he ha
  go_enter Try.func22, Try.ntmps22
  go_wp2_with (at_builtin; refine append_bytes (w0 := w) rfl _ _ rfl (l := []) rfl (own_empty w 5 w.heap.size (Nat.le_refl _)) HB1.out rfl hb1 ?c1 ?_)
  case c1 => omega
  intro A1 n1 c1 w1 hown1 hbel1 _
  have H := Lib.hid (zzvalue_any A1 n1 c1 q entry target ahead rest r w1 (Bs.of_own hown1) HF.out HA.out HE.out)
  have HB2 := Lib.hid hbel1
  clear hown1 hbel1 hb1
  generalize look q target entry (-1) r = R at *
  go_wp2_with fail
  refine H.out.mono ?_
  rintro en w2 ⟨rfl, hbel2⟩
  have HR := Lib.hid (HB2.out.trans (hbel2.mono HB2.out.size))
  clear hbel2
  go_wp2_with fail
  go_ret
  exact ⟨rfl, HR.out⟩
end Go.Proofs.Ytfbnnbbjfjhkjaa
