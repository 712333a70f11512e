/- The walk of ZZTable. -/
import Derived.Test.YtfbnnbbjfjhkjaaZst
import Derived.Test.YtfbnnbbjfjhkjaaFpc
namespace Go.Proofs.Ytfbnnbbjfjhkjaa
open Go.RowKit
set_option linter.unusedVariables false

set_option maxRecDepth 100000 in
set_option maxHeartbeats 4000000 in
theorem zztable_any (A0 A2 A3 : Option Addr) (n0 c0 n2 c2 n3 c3 : Nat) (pcs bef beh : List Int) (size q : Int) (w : World)
    (h39 : ∀ (gk ga gf gn g6 g7 : Nat) (bs : List Nat) (W : World)
    (hk : Blk W gk 89 #[.pointer (some ⟨ga, 0, none⟩)]) (ha : Blk W ga 87 #[.int .i64 q]) (hf : Blk W gf 83 #[.int .i64 size, .slice none 0 0, .pointer (some ⟨gn, 0, none⟩)]) (hn : Blk W gn 76 #[.pointer (linkAt bs 0)])
    (h6 : Blk W g6 47 #[.slice A2 n2 c2]) (h7 : Blk W g7 47 #[.slice A3 n3 c3]) (hbef : Is W W.heap.size A2 n2 c2 .i32 bef) (hbeh : Is W W.heap.size A3 n3 c3 .i32 beh) (hch : Chain W W.heap.size bs pcs),
    Calls Try.prog 39 #[.pointer (some ⟨gk, 0, none⟩), .pointer (some ⟨gf, 0, none⟩), .func (.func 38) #[] #[.pointer (some ⟨g6, 0, none⟩), .pointer (some ⟨g7, 0, none⟩)], .nilIface] W
      (FpPost W (tab (pairs size q 0 (pcs.zip bef)) ++ [0])))
    (hpcs : Is w w.heap.size A0 n0 c0 .i64 pcs) (hbef : Is w w.heap.size A2 n2 c2 .i32 bef) (hbeh : Is w w.heap.size A3 n3 c3 .i32 beh) (hpos : 0 < pcs.length) :
    Calls Try.prog 33 #[.slice A0 n0 c0, .int .i64 size, .slice A2 n2 c2, .slice A3 n3 c3, .int .i64 q] w
      (BytesPost w (tab (pairs size q 0 (pcs.zip bef)) ++ [0])) := by
  have hlen := hpcs.len
  have hcap := hpcs.cap
  have hbig := hpcs.big
  unfold maxLen at hbig
  have H39 := Lib.hid h39
  clear h39
  have b1 := (Below.refl w.heap.size w).alloc (Nat.le_refl _) (.cells #[.slice A2 n2 c2] 47)
  have b2 := b1.alloc b1.size (.cells #[.slice A3 n3 c3] 47)
  have b3 := b2.alloc b2.size (.cells #[.pointer none] 76)
  have hst : Hid (ZtSt w pcs (.slice A2 n2 c2) (.slice A3 n3 c3) 0 (((w.alloc (.cells #[.slice A2 n2 c2] 47)).alloc (.cells #[.slice A3 n3 c3] 47)).alloc (.cells #[.pointer none] 76))) := by
    have k1 := ((Blk.new w 47 #[.slice A2 n2 c2]).alloc (.cells #[.slice A3 n3 c3] 47)).alloc (.cells #[.pointer none] 76)
    have k2 := (Blk.new (w.alloc (.cells #[.slice A2 n2 c2] 47)) 47 #[.slice A3 n3 c3]).alloc (.cells #[.pointer none] 76)
    have k3 := Blk.new ((w.alloc (.cells #[.slice A2 n2 c2] 47)).alloc (.cells #[.slice A3 n3 c3] 47)) 76 #[.pointer none]
    have z1 : (w.alloc (.cells #[.slice A2 n2 c2] 47)).heap.size = w.heap.size + 1 := by simp
    have z2 : ((w.alloc (.cells #[.slice A2 n2 c2] 47)).alloc (.cells #[.slice A3 n3 c3] 47)).heap.size = w.heap.size + 1 + 1 := by simp
    rw [z1] at k2
    rw [z2] at k3
    exact Lib.hid ⟨by simp, k1, k2, k3, fun j _ hj => by omega, b3⟩
  clear b1 b2 b3
  have HP := Lib.hid hpcs
  have HBEF := Lib.hid hbef
  have HBEH := Lib.hid hbeh
  have HLEN := Lib.hid hlen
  have HPOS := Lib.hid hpos
  obtain ⟨g0, o0, rfl, hg0, hc0⟩ := hpcs.cells (by omega)
  clear hpcs hbef hbeh hc0 hlen hpos
  go_enter Try.func33, Try.ntmps33
  go_wp2_with fail
  go_loopg [12, 20] n0 (fun k v12 v20 wr => ZtRel w pcs (.slice A2 n2 c2) (.slice A3 n3 c3) k v12 v20 wr)
  case atStart => exact ⟨0, by have := HLEN.out; omega, rfl, rfl, hst.out⟩
  case round =>
    obtain ⟨i, hi, rfl, rfl, hz⟩ := hrel
    clear hst
    cases gk with
    | zero =>
      have hin : ¬ i < n0 := by have := HLEN.out; omega
      have hil : i = pcs.length := by omega
      subst hil
      have HBEL := Lib.hid hz.2.2.2.2.2
      have hch := hz.chain
      obtain ⟨z1, z2, z3, z4, z5, z6⟩ := hz
      have hln : linkAt (chainOf w.heap.size pcs.length) 0 = some ⟨w.heap.size + 3, 0, none⟩ := by rw [linkAt_chain, if_pos HPOS.out]
      rw [if_pos HPOS.out, ← hln] at z4
      have c1 := (Below.refl wr.heap.size wr).alloc (Nat.le_refl _) (.cells #[.int .i64 q] 87)
      have c2 := c1.alloc c1.size (.cells #[.pointer (some ⟨wr.heap.size, 0, none⟩)] 89)
      have c3 := c2.alloc c2.size (.cells #[.int .i64 size, .slice none 0 0, .pointer (some ⟨w.heap.size + 1 + 1, 0, none⟩)] 83)
      have y1 : (wr.alloc (.cells #[.int .i64 q] 87)).heap.size = wr.heap.size + 1 := by simp
      have y2 : ((wr.alloc (.cells #[.int .i64 q] 87)).alloc (.cells #[.pointer (some ⟨wr.heap.size, 0, none⟩)] 89)).heap.size = wr.heap.size + 1 + 1 := by simp
      have d1 := ((Blk.new wr 87 #[.int .i64 q]).alloc (.cells #[.pointer (some ⟨wr.heap.size, 0, none⟩)] 89)).alloc (.cells #[.int .i64 size, .slice none 0 0, .pointer (some ⟨w.heap.size + 1 + 1, 0, none⟩)] 83)
      have d2 := (Blk.new (wr.alloc (.cells #[.int .i64 q] 87)) 89 #[.pointer (some ⟨wr.heap.size, 0, none⟩)]).alloc (.cells #[.int .i64 size, .slice none 0 0, .pointer (some ⟨w.heap.size + 1 + 1, 0, none⟩)] 83)
      have d3 := Blk.new ((wr.alloc (.cells #[.int .i64 q] 87)).alloc (.cells #[.pointer (some ⟨wr.heap.size, 0, none⟩)] 89)) 83 #[.int .i64 size, .slice none 0 0, .pointer (some ⟨w.heap.size + 1 + 1, 0, none⟩)]
      rw [y1] at d2
      rw [y2] at d3
      have HBL := Lib.hid (HBEL.out.trans (c3.mono HBEL.out.size))
      have HC := Lib.hid (H39.out _ _ _ _ _ _ _ _ d2 d1 d3 (z4.below c3 z4.lt) (z2.below c3 z2.lt) (z3.below c3 z3.lt) ((HBEF.out.below HBL.out).more HBL.out.size) ((HBEH.out.below HBL.out).more HBL.out.size)
        ⟨hch.1, fun i h1 h2 => ⟨Nat.lt_of_lt_of_le (hch.2 i h1 h2).1 c3.size, (hch.2 i h1 h2).2.below c3 (hch.2 i h1 h2).1⟩⟩)
      clear z1 z2 z3 z4 z5 z6 hch hln c1 c2 c3 y1 y2 d1 d2 d3 hi
      generalize tab (pairs size q 0 (pcs.zip bef)) ++ [0] = T at *
      go_wp2_with fail
      refine HC.out.mono ?_
      rintro en w5 ⟨gs, A, n, c, s, rfl, hblk, hbs, hbel⟩
      have hcs : w5.cell? ⟨gs, 1, none⟩ = some (.slice A n c) := hblk.cell 1
      have HR : Hid (BytesPost w T (.returned (.slice A n c)) w5) := Lib.hid ⟨A, n, c, rfl, hbs, HBL.out.trans (hbel.mono HBL.out.size)⟩
      clear hblk hbs hbel
      go_wp2_with fail
      go_ret
      exact HR.out
    | succ k =>
      have hin : i < n0 := by have := HLEN.out; omega
      have hil : i < pcs.length := by omega
      obtain ⟨x, hx⟩ : ∃ x, pcs[i] = x := ⟨_, rfl⟩
      have hcx : wr.cell? ⟨g0, o0 + i, none⟩ = some (.int .i64 x) := by
        obtain ⟨g, o, e, _, hc⟩ := (HP.out.below hz.2.2.2.2.2).cells (by omega)
        injection e with e
        injection e with e1 e2
        subst e1 e2
        rw [← hx]
        exact hc i hil
      cases i with
      | zero =>
        have HZ := Lib.hid (hz.first x fun _ => hx)
        have hc4 : ∀ o, (wr.alloc o).cell? ⟨w.heap.size + 1 + 1, 0, none⟩ = some (.pointer none) := fun o => (hz.2.2.2.1.alloc o).cell 0
        have hf4 : ∀ o, (wr.alloc o).frozen? ⟨w.heap.size + 1 + 1, 0, none⟩ = false := fun o => (hz.2.2.2.1.alloc o).free 0
        have HI := Lib.hid hi
        have HH := Lib.hid hz.1
        have el : lastAt w.heap.size 0 = none := rfl
        rw [el]
        replace hcx : wr.cell? ⟨g0, o0, none⟩ = some (.int .i64 x) := hcx
        have ez : ((0 : Nat) : Int) = 0 := rfl
        rw [ez]
        clear hz hx hi el ez
        go_wp2_with fail
        go_roundg k
        case measure => omega
        case rel => exact ⟨1, by have := HI.out; omega, by (first | (rw [HH.out]; done) | (rw [HH.out]; rfl)), rfl, HZ.out⟩
      | succ i =>
        have ez : ((i + 1 : Nat) : Int) = (i : Int) + 1 := rfl
        have HZ := Lib.hid (hz.next x fun _ => hx)
        have hbk := hz.2.2.2.2.1 i (by omega) (by omega)
        rw [if_neg (by omega)] at hbk
        have hc4 : ∀ o, (wr.alloc o).cell? ⟨w.heap.size + 3 + i, 1, none⟩ = some (.pointer none) := fun o => (hbk.alloc o).cell 1
        have hf4 : ∀ o, (wr.alloc o).frozen? ⟨w.heap.size + 3 + i, 1, none⟩ = false := fun o => (hbk.alloc o).free 1
        have HI := Lib.hid hi
        have HH := Lib.hid hz.1
        have el : lastAt w.heap.size (i + 1) = some ⟨w.heap.size + 3 + i, 0, none⟩ := by unfold lastAt; rw [if_neg (by omega)]; rfl
        rw [el]
        rw [ez] at HZ ⊢
        clear hz hx hi el ez hbk hil
        go_wp2_with fail
        go_roundg k
        case measure => omega
        case rel => exact ⟨i + 1 + 1, by have := HI.out; omega, by (first | (rw [HH.out]; done) | (rw [HH.out]; rfl)), rfl, HZ.out⟩

theorem zztable_run (A0 A2 A3 : Option Addr) (n0 c0 n2 c2 n3 c3 : Nat) (pcs bef beh : List Int) (size q : Int) (w : World)
    (hpcs : Is w w.heap.size A0 n0 c0 .i64 pcs) (hbef : Is w w.heap.size A2 n2 c2 .i32 bef) (hbeh : Is w w.heap.size A3 n3 c3 .i32 beh)
    (hl2 : bef.length = pcs.length) (hl3 : beh.length = pcs.length) (hpos : 0 < pcs.length) (hord : InOrder size q 0 (pcs.zip bef)) (hp0 : pcs[0] = 0) (hq1 : 1 ≤ q) (hq4 : q ≤ 4) (hsz : size ≤ 1073741824) (hlen : pcs.length ≤ 2147483647) :
    Calls Try.prog 33 #[.slice A0 n0 c0, .int .i64 size, .slice A2 n2 c2, .slice A3 n3 c3, .int .i64 q] w
      (BytesPost w (tab (pairs size q 0 (pcs.zip bef)) ++ [0])) :=
  zztable_any A0 A2 A3 n0 c0 n2 c2 n3 c3 pcs bef beh size q w
    (fun gk ga gf gn g6 g7 bs W hk ha hf hn h6 h7 hb2 hb3 hch => funcpctab_any gk ga gf gn g6 g7 bs pcs bef beh size q A2 A3 n2 c2 n3 c3 W hk ha hf hn h6 h7 hb2 hb3 hch hl2 hl3 hpos hord hp0 hq1 hq4 hsz hlen) hpcs hbef hbeh hpos
end Go.Proofs.Ytfbnnbbjfjhkjaa
