/- The walk of the law FnExactStep, and of Zigzag. -/
import Derived.Test.YtfbnnbbjfjhkjaaWalk5
namespace Go.Proofs.Ytfbnnbbjfjhkjaa
open Go.RowKit

set_option maxRecDepth 100000 in
theorem zigzag_any (d : Int) (w : World) (h0 : -2147483648 ≤ d) (h1 : d ≤ 2147483647) : Calls Try.prog 18 #[.int .i32 d] w fun en w' => en = .returned (.int .u32 (zig d : Int)) ∧ w = w' := by
  by_cases h : d < 0
  · have e : (zig d : Int) = (-1 - d) * 2 + 1 := by unfold zig; rw [if_pos h]; omega
    rw [e]
    clear e
    go_enter Try.func18, Try.ntmps18
    go_wp2_with fail
    go_ret
    exact ⟨rfl, rfl⟩
  · have e : (zig d : Int) = d * 2 := by unfold zig; rw [if_neg h]; omega
    rw [e]
    clear e
    go_enter Try.func18, Try.ntmps18
    go_wp2_with fail
    go_ret
    exact ⟨rfl, rfl⟩

set_option maxRecDepth 100000 in
set_option maxHeartbeats 400000 in
theorem law6 (q pc v x : Int) (y : Nat) (A : Option Addr) (n c : Nat) (rest : List UInt8) (w : World) (hb : Bs w w.heap.size A n c rest) (hx0 : -2147483648 ≤ x) (hx1 : x ≤ 2147483647) :
    Calls Try.prog 6 #[.int .u32 q, .int .i32 x, .int .u32 (y : Int), .int .u64 pc, .int .i32 v, .slice A n c] w (IsPost w (.bool true)) := by
  by_cases h24 : n ≤ 16777216
  · by_cases hq0 : q < 1
    · go_enter Try.func6, Try.ntmps6
      go_wp2_with fail
      go_ret
      exact ⟨rfl, Below.refl _ _⟩
    · by_cases hq1 : 4 < q
      · go_enter Try.func6, Try.ntmps6
        go_wp2_with fail
        go_ret
        exact ⟨rfl, Below.refl _ _⟩
      · by_cases hy : 1048576 < (y : Int)
        · go_enter Try.func6, Try.ntmps6
          go_wp2_with fail
          go_ret
          exact ⟨rfl, Below.refl _ _⟩
        · obtain ⟨d, hd⟩ : ∃ d : Int, (y : Int) * q = d := ⟨_, rfl⟩
          have hd0 : 0 ≤ d := by rw [← hd]; exact Int.mul_nonneg (by omega) (by omega)
          have hd1 : d ≤ 4194304 := by
            rw [← hd]
            exact Int.le_trans (Int.mul_le_mul (show (y : Int) ≤ 1048576 by omega) (show q ≤ 4 by omega) (by omega) (by omega)) (by decide)
          have hmul : IntKind.u64.wrap ((y : Int) * q) = d := by rw [hd, IntKind.wrap_u64]; omega
          have hz := zig_lt hx0 hx1
          have hs1 := uvarint_short hz
          have hs2 := uvarint_short (n := y) (by omega)
          have HZ := Lib.hid hz
          have HD := Lib.hid hd
          have HZZ := Lib.hid (zag_zig x)
          have hfirst : (x == 0) = true ∨ zig x ≠ 0 := by
            by_cases h : x = 0
            · exact .inl (by simp [h])
            · exact .inr (fun e => h (zig_zero.1 e))
          have HF := Lib.hid hfirst
          have H18 := Lib.hid (zigzag_any x w hx0 hx1)
          clear hfirst hd hz
          go_enter Try.func6, Try.ntmps6
          go_wp2_with fail
          refine H18.out.mono ?_
          rintro en w' ⟨rfl, rfl⟩
          go_wp2_with fail
          refine (varint_any (zig x) w HZ.out).mono ?_
          rintro en w1 ⟨A1, c1, rfl, hown1, hbel1⟩
          have HO1 := Lib.hid hown1
          have HB1 := Lib.hid hbel1
          clear hown1 hbel1
          go_wp2_with fail
          refine (varint_any y w1 (by omega)).mono ?_
          rintro en w2 ⟨A2, c2, rfl, hown2, hbel2⟩
          have hbel := HB1.out.trans (hbel2.mono HB1.out.size)
          have hb2 := Bs.of_own hown2
          have HO2 := Lib.hid (ownsRow_below HO1.out hbel2 fun g hg => (HO1.out.lt g hg).2)
          have HB2 := Lib.hid hbel
          clear hown2 hbel2 hbel
          go_wp2_with (at_builtin; refine append_bytes (w0 := w) rfl (.tmp 33) (.tmp 35) rfl rfl HO2.out HB2.out rfl hb2 ?c1 ?_)
          case c1 => omega
          intro A3 n3 c3 w3 hown3 hbel3 _
          have hn3 := own_bytes hown3
          have hb3 := hb.below hbel3
          have hl3 := hb3.len
          simp only [List.length_append] at hn3
          have hn3' : n3 ≤ 10 := by omega
          have HO3 := Lib.hid hown3
          have HB3 := Lib.hid hbel3
          clear hown3 hbel3 hn3 hb2 hl3
          go_wp2_with (at_builtin; refine append_bytes (w0 := w) rfl (.tmp 36) (.tmp 37) rfl rfl HO3.out HB3.out rfl hb3 ?c2 ?_)
          case c2 => omega
          intro A4 n4 c4 w4 hown4 hbel4 _
          have hb4 : Bs w4 w4.heap.size A4 n4 c4 (Lib.uvarint (zig x) ++ (Lib.uvarint y ++ rest)) := by simpa using Bs.of_own hown4
          have hl4 := hb4.len
          have hl0 := hb.len
          simp only [List.length_append] at hl4
          have H17 := Lib.hid (next_more A4 n4 c4 (Lib.uvarint (zig x)) (Lib.uvarint y) rest (zig x) y q d pc v (x == 0) w4 hb4 (by omega) (grp_uvarint _) (grp_uvarint _) (by omega) (by omega) (val_short HZ.out) (val_short (by omega)) HF.out HD.out hd0 (by omega))
          rw [HZZ.out] at H17
          have HB4 := Lib.hid hbel4
          clear hown4 hbel4 hl4 hl0 hb4 hb3
          go_wp2_with fail
          refine H17.out.mono ?_
          rintro en w5 ⟨A5, n5, c5, rfl, hb5, hbel5⟩
          have hbel : Below w.heap.size w w5 := HB4.out.trans (hbel5.mono HB4.out.size)
          have b6 := hbel.alloc hbel.size (.cells #[.slice A5 n5 c5, .int .u64 (IntKind.u64.wrap (pc + d)), .int .i32 (wrap32 (v + x)), .bool true] 32)
          have e5 := conv_bytes hb5 (w5.alloc (.cells #[.slice A5 n5 c5, .int .u64 (IntKind.u64.wrap (pc + d)), .int .i32 (wrap32 (v + x)), .bool true] 32)) (fun p hp => World.cell?_alloc_lt _ _ _ hp)
          have e0 := conv_bytes (hb.below b6) _ (fun _ _ => rfl)
          have HR := Lib.hid b6
          clear hb5 hbel5 hb hbel b6
          go_wp2_with fail
          go_outline
          go_ret
          exact ⟨rfl, HR.out⟩
  · by_cases h31 : n ≤ 2147483647
    · go_enter Try.func6, Try.ntmps6
      go_wp2_with fail
      go_ret
      exact ⟨rfl, Below.refl _ _⟩
    · go_enter Try.func6, Try.ntmps6
      go_wp2_with fail
      go_ret
      exact ⟨rfl, Below.refl _ _⟩
end Go.Proofs.Ytfbnnbbjfjhkjaa
