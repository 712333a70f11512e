/- The walk of the law FnExactEnd; Next at a pair and at the end. -/
import Derived.Test.YtfbnnbbjfjhkjaaPad
namespace Go.Proofs.Ytfbnnbbjfjhkjaa
open Go.RowKit

theorem field3 (s p v : Value) (b : Bool) (w : World) : (Instr.field 32 (.agg #[s, p, v, .bool b]) 3).run Try.prog w = .ok (.bool b) w := by kernel_rfl
/-- 'Next' at the end of a table. -/
theorem next_stop (A : Option Addr) (n c : Nat) (rest : List UInt8) (q pc v : Int) (w : World) (hb : Bs w w.heap.size A n c (0 :: rest)) (hn : n ≤ 140737488355328) :
    Calls Try.prog 17 #[.int .u32 q, .slice A n c, .int .u64 pc, .int .i32 v, .bool false] w (NextPost w false rest pc v) :=
  next_any A n c (0 :: rest) q pc v false false rest pc v w hb hn (by have := hb.len; simp at this; omega) fun A' n' c' W hW =>
    zzstep_any A' n' c' q pc v false false rest pc v W fun gt gp gc gv W' g1 _ _ _ k2 k3 k4 hbel =>
      step_stop gt gp gc gv W.heap.size A' n' c' [0] rest pc v W' k2 k3 k4 (hW.below hbel) g1 grp_nought (by decide) rfl

/-- 'Next' at a pair. -/
theorem next_more (A : Option Addr) (n c : Nat) (e1 e2 rest : List UInt8) (y1 y2 : Nat) (q d pc v : Int) (first : Bool) (w : World) (hb : Bs w w.heap.size A n c (e1 ++ (e2 ++ rest))) (hn : n ≤ 140737488355328)
    (h1 : Grp e1) (h2 : Grp e2) (hl1 : e1.length ≤ 1000) (hl2 : e2.length ≤ 1000) (hy1 : y1 = val e1 % 4294967296) (hy2 : y2 = val e2 % 4294967296) (hfirst : first = true ∨ y1 ≠ 0)
    (hd : y2 * q = d) (hd0 : 0 ≤ d) (hd1 : d < 4294967296) :
    Calls Try.prog 17 #[.int .u32 q, .slice A n c, .int .u64 pc, .int .i32 v, .bool first] w (NextPost w true rest (IntKind.u64.wrap (pc + d)) (wrap32 (v + zag y1))) :=
  next_any A n c (e1 ++ (e2 ++ rest)) q pc v first true rest _ _ w hb hn (by have := hb.len; simp at this; omega) fun A' n' c' W hW =>
    zzstep_any A' n' c' q pc v first true rest _ _ W fun gt gp gc gv W' g1 g2 g3 k1 k2 k3 k4 hbel =>
      step_more gt gp gc gv W.heap.size A' n' c' e1 e2 rest y1 y2 q d pc v _ first W' k1 k2 k3 k4 (hW.below hbel) g1 g2 g3 h1 h2 hl1 hl2 hy1 hy2 hfirst hd hd0 hd1

set_option maxRecDepth 100000 in
set_option maxHeartbeats 400000 in
theorem law5 (q pc v x y : Int) (A : Option Addr) (n c : Nat) (rest : List UInt8) (w : World) (hb : Bs w w.heap.size A n c rest) :
    Calls Try.prog 5 #[.int .u32 q, .int .i32 x, .int .u32 y, .int .u64 pc, .int .i32 v, .slice A n c] w (IsPost w (.bool true)) := by
  by_cases h24 : n ≤ 16777216
  · have b1 := (Below.refl w.heap.size w).alloc (Nat.le_refl _) (.cells #[.int .u8 0] 5)
    have o1 := World.ownsRow_lit (base := w.heap.size) (e := 5) (size := 1) w #[.int .u8 0] 1 (Nat.le_refl _) (by decide) rfl
    have hb1 := hb.alloc (Nat.le_refl _) (.cells #[.int .u8 0] 5)
    have HB1 := Lib.hid b1
    have HO1 : Hid ((w.alloc (.cells #[.int .u8 0] 5)).ownsRow w.heap.size 5 1 (.slice (some ⟨w.heap.size, 0, none⟩) 1 1) 1 (Lib.byteCells [0])) := Lib.hid o1
    clear b1 o1
    go_enter Try.func5, Try.ntmps5
    go_wp2_with (at_builtin; refine append_bytes (w0 := w) rfl (.tmp 20) (.tmp 21) rfl rfl HO1.out HB1.out rfl hb1 ?c1 ?_)
    case c1 => omega
    intro A2 n2 c2 w2 hown2 hbel2 _
    have hn2 := own_bytes hown2
    have hl := hb1.len
    have H17 := Lib.hid (next_stop A2 n2 c2 rest q pc v w2 (Bs.of_own hown2) (by simp at hn2; omega))
    have HB2 := Lib.hid hbel2
    clear hbel2 hown2 hn2 hl hb1
    go_wp2_with fail
    refine H17.out.mono ?_
    rintro en w3 ⟨A3, n3, c3, rfl, hb3, hbel3⟩
    have hbel : Below w.heap.size w w3 := HB2.out.trans (hbel3.mono HB2.out.size)
    have b4 := hbel.alloc hbel.size (.cells #[.int .u8 0, .int .u8 1] 5)
    have l4 := (bs_lit w3 [0, 1] (by decide) #[.int .u8 0, .int .u8 1] rfl)
    have H := Lib.hid (next_more (some ⟨w3.heap.size, 0, none⟩) 2 2 [0] [1] [] 0 1 1 1 pc v true (w3.alloc (.cells #[.int .u8 0, .int .u8 1] 5)) (l4.more (by simp)) (by decide) grp_nought (grp_one (by decide)) (by decide) (by decide) rfl rfl (.inl rfl) rfl (by decide) (by decide))
    have HB4 := Lib.hid b4
    clear b4 l4 hbel hbel3 hb3
    have hfd := field3
    go_wp2_with fail
    refine H.out.mono ?_
    rintro en w5 ⟨A5, n5, c5, rfl, -, hbel5⟩
    have HR := Lib.hid (HB4.out.trans (hbel5.mono HB4.out.size))
    clear hbel5
    go_wp2_with fail
    go_ret
    exact ⟨rfl, HR.out⟩
  · by_cases h31 : n ≤ 2147483647
    · go_enter Try.func5, Try.ntmps5
      go_wp2_with fail
      go_ret
      exact ⟨rfl, Below.refl _ _⟩
    · go_enter Try.func5, Try.ntmps5
      go_wp2_with fail
      go_ret
      exact ⟨rfl, Below.refl _ _⟩
end Go.Proofs.Ytfbnnbbjfjhkjaa
