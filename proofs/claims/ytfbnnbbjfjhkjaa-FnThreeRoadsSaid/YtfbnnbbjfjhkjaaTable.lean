/- The walk of Table of the reference: the bytes of the table of well runs. -/
import Derived.Test.YtfbnnbbjfjhkjaaEnts
import Derived.Test.YtfbnnbbjfjhkjaaGood
namespace Go.Proofs.Ytfbnnbbjfjhkjaa
open Go.RowKit

def TbRel (w : World) (l : List (Nat × Int)) (k : Nat) (vo vl vi : Value) (wr : World) : Prop :=
  ∃ (i : Nat) (p : Int) (first : Bool) (D : List UInt8) (A' : Option Addr) (n' c' : Nat), i + k = l.length ∧ vi = .int .i64 (i : Int) ∧ vl = .int .i32 p ∧ vo = .slice A' n' c' ∧ wr.ownsRow w.heap.size 5 1 (.slice A' n' c') n' (Lib.byteCells D) ∧
    n' ≤ 10 * i ∧ tab (ents (-1) l) = D ++ tab (ents p (l.drop i)) ∧ WellFrom first p (l.drop i) ∧ -1048576 ≤ p ∧ p ≤ 1048576 ∧ Below w.heap.size w wr

set_option maxRecDepth 100000 in
set_option maxHeartbeats 1000000 in
theorem table_any (A : Option Addr) (n c : Nat) (l : List (Nat × Int)) (w : World) (hr : Rs w w.heap.size A n c l) (hw : WellFrom true 0 l) (hl : l.length ≤ 1000) :
    Calls Try.prog 21 #[.slice A n c] w (RowPost w (tab (ents (-1) l) ++ [0])) := by
  have hn := hr.len
  have hcap := hr.cap
  have hbig := hr.big
  unfold maxLen at hbig
  have hw' : WellFrom true (-1) l := by
    cases l with
    | nil => trivial
    | cons x r => exact ⟨⟨hw.1.1, hw.1.2.1, hw.1.2.2.1, hw.1.2.2.2.1, fun h => by cases h⟩, hw.2⟩
  have hst : Hid (TbRel w l l.length (.slice none 0 0) (.int .i32 (-1)) (.int .i64 0) w) := Lib.hid ⟨0, -1, true, [], none, 0, 0, by omega, rfl, rfl, rfl, World.ownsRow_nil _ _ _ _, by omega, rfl, hw', by omega, by omega, Below.refl _ _⟩
  have HN := Lib.hid hn
  clear hw hw' hn
  go_enter Try.func21, Try.ntmps21
  go_wp2_with fail
  go_loopg [3, 4, 9] l.length (fun k vo vl vi wr => TbRel w l k vo vl vi wr)
  case atStart => exact hst.out
  case round =>
    obtain ⟨i, p, first, D, A', n', c', hi, rfl, rfl, rfl, hown, hn', he, hwf, hp0, hp1, hbel⟩ := hrel
    cases gk with
    | zero =>
      have hin : ¬ i < n := by have := HN.out; omega
      have e0 : l.drop i = [] := List.drop_eq_nil_of_le (by omega)
      rw [e0] at he
      have e1 : D = tab (ents (-1) l) := by rw [he]; simp [ents, tab]
      have HO := Lib.hid (hown.alloc (.cells #[.int .u8 0] 5))
      have HB := Lib.hid (hbel.alloc hbel.size (.cells #[.int .u8 0] 5))
      have hlit := bs_lit wr [0] (by decide) #[.int .u8 0] rfl
      have HE := Lib.hid e1
      have hn2 : n' ≤ 10000 := by omega
      clear hown hbel he hwf e0 e1 hi hst
      go_wp2_with (at_builtin; refine append_bytes (w0 := w) rfl (.tmp 29) (.tmp 30) rfl rfl HO.out HB.out rfl hlit ?c1 ?_)
      case c1 => simp; omega
      intro A2 n2 c2 w2 hown2 hbel2 _
      have HR : Hid (RowPost w (tab (ents (-1) l) ++ [0]) (.returned (.slice A2 n2 c2)) w2) := by
        rw [HE.out] at hown2
        have := own_bytes hown2
        rw [this] at hown2 ⊢
        exact Lib.hid ⟨A2, c2, rfl, hown2, hbel2⟩
      clear hown2 hbel2
      go_wp2_with fail
      go_ret
      exact HR.out
    | succ k =>
      have hin : i < n := by have := HN.out; omega
      have hil : i < l.length := by omega
      obtain ⟨g, o, rfl, hg, hc⟩ := hr.cells (by omega)
      have hq := (hc i hil).1
      have hv := (hc i hil).2
      rw [← hbel.cell (by exact hg)] at hq hv
      rw [List.drop_eq_getElem_cons hil] at he hwf
      generalize l[i] = x at *
      obtain ⟨⟨h1, h2, h3, h4, h5⟩, hwf'⟩ := hwf
      obtain ⟨q, v⟩ := x
      simp only at *
      have hz : zig (v - p) < 4294967296 := zig_lt (by omega) (by omega)
      have he2 : tab (ents (-1) l) = (D ++ Lib.uvarint (zig (v - p)) ++ Lib.uvarint q) ++ tab (ents v (l.drop (i + 1))) := by rw [he]; simp [ents, tab]
      have hs1 := uvarint_short hz
      have hs2 : (Lib.uvarint q).length ≤ 5 := uvarint_short (by omega)
      have hq32 : q < 4294967296 := by omega
      have H18 := fun W => Lib.hid (zigzag_any (v - p) W (by omega) (by omega))
      have H15 := fun W => Lib.hid (varint_any (zig (v - p)) W hz)
      have H15b := fun W => Lib.hid (varint_any q W hq32)
      have HO0 := Lib.hid (hown.alloc (.cells #[.int .u32 (q : Int), .int .i32 v] 41))
      have HB0 := Lib.hid (hbel.alloc hbel.size (.cells #[.int .u32 (q : Int), .int .i32 v] 41))
      have HK0 := Lib.hid (Blk.new wr 41 #[.int .u32 (q : Int), .int .i32 v])
      have HW := Lib.hid hwf'
      have HE := Lib.hid he2
      have hi2 : i < 1000 := by omega
      have HI := Lib.hid hi
      clear hown hbel he he2 h5 hwf' hst hi hz hc
      go_wp2_with fail
      refine (H18 _).out.mono ?_
      rintro en w0 ⟨rfl, rfl⟩
      go_wp2_with fail
      refine (H15 _).out.mono ?_
      rintro en w1 ⟨A1, c1, rfl, hown1, hbel1⟩
      have HO1 := Lib.hid (ownsRow_below HO0.out hbel1 fun g hg => (HO0.out.lt g hg).2)
      have HB1 := Lib.hid (HB0.out.trans (hbel1.mono HB0.out.size))
      have HK1 := Lib.hid (HK0.out.below hbel1 HK0.out.lt)
      have hb1 := Bs.of_own hown1
      clear hown1 hbel1
      go_wp2_with (at_builtin; refine append_bytes (w0 := w) rfl (.tmp 13) (.tmp 19) rfl rfl HO1.out HB1.out rfl hb1 ?c1 ?_)
      case c1 => omega
      intro A2 n2 c2 w2 hown2 hbel2 hg2
      have hne1 := own_ne HO1.out HK1.out (by decide)
      have k2 := HK1.out.grown hg2 (Ne.symm hne1)
      have q2 : w2.cell? ⟨wr.heap.size, 0, none⟩ = some (.int .u32 (q : Int)) := k2.cell 0
      have HK2 := Lib.hid k2
      have HO2 := Lib.hid hown2
      have HB2 := Lib.hid hbel2
      have hn2 := own_bytes hown2
      simp only [List.length_append] at hn2
      have hD := own_bytes HO0.out
      have hn2' : n2 ≤ 10 * i + 5 := by omega
      have HN2 := Lib.hid hn2
      clear hown2 hbel2 hg2 hne1 k2 hb1 hn2 hD
      go_wp2_with fail
      refine (H15b _).out.mono ?_
      rintro en w3 ⟨A3, c3, rfl, hown3, hbel3⟩
      have HO3 := Lib.hid (ownsRow_below HO2.out hbel3 fun g hg => (HO2.out.lt g hg).2)
      have HB3 := Lib.hid (HB2.out.trans (hbel3.mono HB2.out.size))
      have HK3 := Lib.hid (HK2.out.below hbel3 HK2.out.lt)
      have hb3 := Bs.of_own hown3
      clear hown3 hbel3 q2
      go_wp2_with (at_builtin; refine append_bytes (w0 := w) rfl (.tmp 21) (.tmp 24) rfl rfl HO3.out HB3.out rfl hb3 ?c2 ?_)
      case c2 => omega
      intro A4 n4 c4 w4 hown4 hbel4 hg4
      have hne3 := own_ne HO3.out HK3.out (by decide)
      have k4 := HK3.out.grown hg4 (Ne.symm hne3)
      have v4 : w4.cell? ⟨wr.heap.size, 1, none⟩ = some (.int .i32 v) := k4.cell 1
      have HR : Hid (TbRel w l k (.slice A4 n4 c4) (.int .i32 v) (.int .i64 ((i + 1 : Nat) : Int)) w4) := by
        have hl4 := own_bytes hown4
        simp only [List.length_append] at hl4
        have := own_bytes HO2.out
        simp only [List.length_append] at this
        refine Lib.hid ⟨i + 1, v, false, D ++ Lib.uvarint (zig (v - p)) ++ Lib.uvarint q, A4, n4, c4, by have := HI.out; omega, rfl, rfl, rfl, by simpa using hown4, by omega, HE.out, HW.out, h3, h4, hbel4⟩
      clear hown4 hbel4 hg4 hne3 k4 hb3
      go_wp2_with fail
      go_roundg k
      case measure => omega
      case rel => exact HR.out
end Go.Proofs.Ytfbnnbbjfjhkjaa
