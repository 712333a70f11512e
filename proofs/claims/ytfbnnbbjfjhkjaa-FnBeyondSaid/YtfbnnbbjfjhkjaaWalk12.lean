/- The walk of the law FnBeyond. -/
import Derived.Test.YtfbnnbbjfjhkjaaWr
import Derived.Test.YtfbnnbbjfjhkjaaOrd
namespace Go.Proofs.Ytfbnnbbjfjhkjaa
open Go.RowKit
set_option linter.unusedVariables false

set_option maxRecDepth 100000 in
set_option maxHeartbeats 4000000 in
theorem law12 (A0 A2 A3 : Option Addr) (n0 c0 n2 c2 n3 c3 : Nat) (pcs bef beh : List Int) (sz q place : Int) (w : World)
    (hpcs : Is w w.heap.size A0 n0 c0 .i64 pcs) (hbef : Is w w.heap.size A2 n2 c2 .i32 bef) (hbeh : Is w w.heap.size A3 n3 c3 .i32 beh) (hv : ∀ x ∈ bef, -2147483648 ≤ x ∧ x ≤ 2147483647)
    (hp : -9223372036854775808 ≤ place ∧ place ≤ 9223372036854775807) :
    Calls Try.prog 12 #[.agg #[.slice A0 n0 c0, .int .i64 sz, .slice A2 n2 c2, .slice A3 n3 c3, .int .i64 q], .int .i64 place] w (IsPost w (.bool true)) := by
  have hB : Below w.heap.size w (w.alloc (.cells #[.slice A0 n0 c0, .int .i64 sz, .slice A2 n2 c2, .slice A3 n3 c3, .int .i64 q] 49)) := (Below.refl w.heap.size w).alloc (Nat.le_refl _) _
  have HB := Lib.hid hB
  obtain ⟨hp0, hp1⟩ := hp
  by_cases hfit : n0 ≤ 2147483647 ∧ n2 ≤ 2147483647 ∧ n3 ≤ 2147483647
  · have H25 := Lib.hid (fits_yes A0 A2 A3 n0 c0 n2 c2 n3 c3 sz q (w.alloc (.cells #[.slice A0 n0 c0, .int .i64 sz, .slice A2 n2 c2, .slice A3 n3 c3, .int .i64 q] 49)) hfit.1 hfit.2.1 hfit.2.2)
    have H26 : Hid (∀ W, Below w.heap.size w W → _) := Lib.hid fun W hW => codeWell_any A0 A2 A3 n0 c0 n2 c2 n3 c3 sz q pcs W ((hpcs.below hW).more hW.size)
    have HPCS := Lib.hid hpcs
    have HBEF := Lib.hid hbef
    have HBEH := Lib.hid hbeh
    have hblk := Blk.new w 49 #[.slice A0 n0 c0, .int .i64 sz, .slice A2 n2 c2, .slice A3 n3 c3, .int .i64 q]
    have HF := Lib.hid hfit
    have HV := Lib.hid hv
    have HBK := Lib.hid hblk
    clear hpcs hbef hbeh hfit hv hB hblk
    go_enter Try.func12, Try.ntmps12
    go_wp2_with fail
    refine H25.out.mono ?_
    rintro en w1 ⟨rfl, hbel1⟩
    have HB1 := Lib.hid (HB.out.trans (hbel1.mono HB.out.size))
    have HK1 := Lib.hid (HBK.out.below hbel1 HBK.out.lt)
    have hk1 := fun i => HK1.out.cell i
    clear hbel1
    go_wp2_with fail
    refine (H26.out _ HB1.out).mono ?_
    rintro en w2 ⟨b, rfl, hb, hbel2⟩
    have HB2 := Lib.hid (HB1.out.trans (hbel2.mono HB1.out.size))
    have HK2 := Lib.hid (HK1.out.below hbel2 HK1.out.lt)
    have hk2 : ∀ i, w2.cell? ⟨w.heap.size, i, none⟩ = #[Value.slice A0 n0 c0, .int .i64 sz, .slice A2 n2 c2, .slice A3 n3 c3, .int .i64 q][i]? := fun i => HK2.out.cell i
    have hw1 : w2.cell? ⟨w.heap.size, 1, none⟩ = some (.int .i64 sz) := hk2 1
    have hw0 : w2.cell? ⟨w.heap.size, 0, none⟩ = some (.slice A0 n0 c0) := hk2 0
    have hw2 : w2.cell? ⟨w.heap.size, 2, none⟩ = some (.slice A2 n2 c2) := hk2 2
    have hw3 : w2.cell? ⟨w.heap.size, 3, none⟩ = some (.slice A3 n3 c3) := hk2 3
    have hw4 : w2.cell? ⟨w.heap.size, 4, none⟩ = some (.int .i64 q) := hk2 4
    clear hbel2 hk1 hk2
    cases b with
    | false =>
      clear hb
      go_wp2_with fail
      go_ret
      exact ⟨rfl, HB2.out⟩
    | true =>
      have hwell := hb rfl
      clear hb
      by_cases hlt : place < sz
      · have hd : decide (place < sz) = true := by simpa using hlt
        clear hwell hlt
        go_wp2_with fail
        go_ret
        exact ⟨rfl, HB2.out⟩
      · have hd : decide (place < sz) = false := by simpa using hlt
        have hs := well_size hwell
        obtain ⟨t, rfl⟩ := Int.eq_ofNat_of_zero_le (show 0 ≤ place by omega)
        obtain ⟨q', rfl⟩ := Int.eq_ofNat_of_zero_le (show 0 ≤ q by omega)
        have hlen := HPCS.out.len
        have hl2 := HBEF.out.len
        have hl3 := HBEH.out.len
        have e2 := hwell.len2
        have e3 := hwell.len3
        have hn := HF.out.1
        obtain ⟨ho, hfit, htl, -, hlook⟩ := well_table hwell (by omega) HV.out rfl (by omega)
        have hlook := hlook t (by omega)
        have HW := Lib.hid (write_any A0 A2 A3 n0 c0 n2 c2 n3 c3 pcs bef beh sz q' w2 ((HPCS.out.below HB2.out).more HB2.out.size) ((HBEF.out.below HB2.out).more HB2.out.size) ((HBEH.out.below HB2.out).more HB2.out.size)
          (by omega) (by omega) hwell.some_ ho (well_first hwell) hs.2.2.1 hs.2.2.2 hwell.most (by omega))
        have HVAL : Hid (∀ W A n c, Bs W W.heap.size A n c (tab (pairs sz q' 0 (pcs.zip bef)) ++ [0]) → Calls Try.prog 22 #[.slice A n c, .int .u32 (q' : Int), .int .u32 0, .int .u64 0, .int .u64 (t : Int)] W (IsPost W (.int .i32 (-1)))) := Lib.hid fun W A n c hbs => by
          have := value_any A n c q' 0 t [] [] (pairs sz q' 0 (pcs.zip bef)) W hbs hfit (by decide) (by decide) (by have := hbs.len; omega)
          rw [hlook] at this
          exact this
        have HT : Hid (0 < (tab (pairs sz q' 0 (pcs.zip bef)) ++ [0]).length) := Lib.hid (by simp)
        obtain ⟨q1, q2, q3, q4⟩ := hs
        have hszm := hwell.most
        clear hwell hlt ho hfit htl hlook hlen hl2 hl3 e2 e3 hn q2
        generalize tab (pairs sz q' 0 (pcs.zip bef)) ++ [0] = T at *
        go_wp2_with fail
        refine HW.out.mono ?_
        rintro en w3 ⟨A, n, c, rfl, hbs, hbel3⟩
        have HB3 := Lib.hid (HB2.out.trans (hbel3.mono HB2.out.size))
        have HV3 := Lib.hid (HVAL.out w3 A n c hbs)
        have hw5 : w3.cell? ⟨w.heap.size, 4, none⟩ = some (.int .i64 (q' : Int)) := (HK2.out.below hbel3 HK2.out.lt).cell 4
        have hn0 : 0 < n := by have := hbs.len; have := HT.out; omega
        have hnc := hbs.cap
        have hcm := hbs.big
        unfold maxLen at hcm
        clear hbs hbel3 hw0 hw1 hw2 hw3 hw4
        go_wp2_with fail
        refine HV3.out.mono ?_
        rintro en w4 ⟨rfl, hbel4⟩
        have HB4 := Lib.hid (HB3.out.trans (hbel4.mono HB3.out.size))
        clear hbel4
        go_wp2_with fail
        go_ret
        exact ⟨rfl, HB4.out⟩
  · have H25 := Lib.hid (fits_no A0 A2 A3 n0 c0 n2 c2 n3 c3 sz q (w.alloc (.cells #[.slice A0 n0 c0, .int .i64 sz, .slice A2 n2 c2, .slice A3 n3 c3, .int .i64 q] 49)) hfit)
    clear hpcs hbef hbeh hfit hv hB
    go_enter Try.func12, Try.ntmps12
    go_wp2_with fail
    refine H25.out.mono ?_
    rintro en w1 ⟨rfl, hbel1⟩
    have HR := Lib.hid (HB.out.trans (hbel1.mono HB.out.size))
    clear hbel1
    go_wp2_with fail
    go_ret
    exact ⟨rfl, HR.out⟩
end Go.Proofs.Ytfbnnbbjfjhkjaa
