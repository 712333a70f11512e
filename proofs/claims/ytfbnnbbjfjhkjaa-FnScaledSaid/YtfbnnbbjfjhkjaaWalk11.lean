/- The walk of the law FnScaled. -/
import Derived.Test.YtfbnnbbjfjhkjaaTabv
namespace Go.Proofs.Ytfbnnbbjfjhkjaa
open Go.RowKit
set_option linter.unusedVariables false

set_option maxRecDepth 100000 in
set_option maxHeartbeats 1000000 in
theorem law11a (AL AA AB : Option Addr) (nl cl na ca nb cb q entry N : Nat) (l : List (Nat × Int)) (ahead behind : List UInt8) (w : World) (hr : Rs w w.heap.size AL nl cl l) (ha : Bs w w.heap.size AA na ca ahead) (hb : Bs w w.heap.size AB nb cb behind) (hq : q < 4294967296) (he : entry < 18446744073709551616) (hN : N < 18446744073709551616) (s1 : ¬ nl ≤ 2147483647) :
    Calls Try.prog 11 #[.slice AL nl cl, .int .u32 (q : Int), .slice AA na ca, .slice AB nb cb, .int .u64 (entry : Int), .int .u64 (N : Int)] w (IsPost w (.bool true)) := by
  clear hr ha hb hq he hN
  go_enter Try.func11, Try.ntmps11
  go_wp2_with fail
  go_ret
  exact ⟨rfl, Below.refl _ _⟩

set_option maxRecDepth 100000 in
set_option maxHeartbeats 1000000 in
theorem law11b (AL AA AB : Option Addr) (nl cl na ca nb cb q entry N : Nat) (l : List (Nat × Int)) (ahead behind : List UInt8) (w : World) (hr : Rs w w.heap.size AL nl cl l) (ha : Bs w w.heap.size AA na ca ahead) (hb : Bs w w.heap.size AB nb cb behind) (hq : q < 4294967296) (he : entry < 18446744073709551616) (hN : N < 18446744073709551616) (s1 : nl ≤ 2147483647) (s2 : ¬ na ≤ 2147483647) :
    Calls Try.prog 11 #[.slice AL nl cl, .int .u32 (q : Int), .slice AA na ca, .slice AB nb cb, .int .u64 (entry : Int), .int .u64 (N : Int)] w (IsPost w (.bool true)) := by
  clear hr ha hb hq he hN
  go_enter Try.func11, Try.ntmps11
  go_wp2_with fail
  go_ret
  exact ⟨rfl, Below.refl _ _⟩

set_option maxRecDepth 100000 in
set_option maxHeartbeats 1000000 in
theorem law11c (AL AA AB : Option Addr) (nl cl na ca nb cb q entry N : Nat) (l : List (Nat × Int)) (ahead behind : List UInt8) (w : World) (hr : Rs w w.heap.size AL nl cl l) (ha : Bs w w.heap.size AA na ca ahead) (hb : Bs w w.heap.size AB nb cb behind) (hq : q < 4294967296) (he : entry < 18446744073709551616) (hN : N < 18446744073709551616) (s1 : nl ≤ 2147483647) (s2 : na ≤ 2147483647) (s3 : ¬ nb ≤ 2147483647) :
    Calls Try.prog 11 #[.slice AL nl cl, .int .u32 (q : Int), .slice AA na ca, .slice AB nb cb, .int .u64 (entry : Int), .int .u64 (N : Int)] w (IsPost w (.bool true)) := by
  clear hr ha hb hq he hN
  go_enter Try.func11, Try.ntmps11
  go_wp2_with fail
  go_ret
  exact ⟨rfl, Below.refl _ _⟩

set_option maxRecDepth 100000 in
set_option maxHeartbeats 1000000 in
theorem law11d (AL AA AB : Option Addr) (nl cl na ca nb cb q entry N : Nat) (l : List (Nat × Int)) (ahead behind : List UInt8) (w : World) (hr : Rs w w.heap.size AL nl cl l) (ha : Bs w w.heap.size AA na ca ahead) (hb : Bs w w.heap.size AB nb cb behind) (hq : q < 4294967296) (he : entry < 18446744073709551616) (hN : N < 18446744073709551616) (s1 : nl ≤ 2147483647) (s2 : na ≤ 2147483647) (s3 : nb ≤ 2147483647) (g1 : ¬ nb ≤ 16777216) :
    Calls Try.prog 11 #[.slice AL nl cl, .int .u32 (q : Int), .slice AA na ca, .slice AB nb cb, .int .u64 (entry : Int), .int .u64 (N : Int)] w (IsPost w (.bool true)) := by
  clear hr ha hb hq he hN
  go_enter Try.func11, Try.ntmps11
  go_wp2_with fail
  go_ret
  exact ⟨rfl, Below.refl _ _⟩

set_option maxRecDepth 100000 in
set_option maxHeartbeats 1000000 in
theorem law11e (AL AA AB : Option Addr) (nl cl na ca nb cb q entry N : Nat) (l : List (Nat × Int)) (ahead behind : List UInt8) (w : World) (hr : Rs w w.heap.size AL nl cl l) (ha : Bs w w.heap.size AA na ca ahead) (hb : Bs w w.heap.size AB nb cb behind) (hq : q < 4294967296) (he : entry < 18446744073709551616) (hN : N < 18446744073709551616) (s1 : nl ≤ 2147483647) (s2 : na ≤ 2147483647) (s3 : nb ≤ 2147483647) (g1 : nb ≤ 16777216) (g2 : ¬ na ≤ 16777216) :
    Calls Try.prog 11 #[.slice AL nl cl, .int .u32 (q : Int), .slice AA na ca, .slice AB nb cb, .int .u64 (entry : Int), .int .u64 (N : Int)] w (IsPost w (.bool true)) := by
  clear hr ha hb hq he hN
  go_enter Try.func11, Try.ntmps11
  go_wp2_with fail
  go_ret
  exact ⟨rfl, Below.refl _ _⟩

set_option maxRecDepth 100000 in
set_option maxHeartbeats 1000000 in
theorem law11f (AL AA AB : Option Addr) (nl cl na ca nb cb q entry N : Nat) (l : List (Nat × Int)) (ahead behind : List UInt8) (w : World) (hr : Rs w w.heap.size AL nl cl l) (ha : Bs w w.heap.size AA na ca ahead) (hb : Bs w w.heap.size AB nb cb behind) (hq : q < 4294967296) (he : entry < 18446744073709551616) (hN : N < 18446744073709551616) (s1 : nl ≤ 2147483647) (s2 : na ≤ 2147483647) (s3 : nb ≤ 2147483647) (g1 : nb ≤ 16777216) (g2 : na ≤ 16777216) (hw : ¬ WellL l) :
    Calls Try.prog 11 #[.slice AL nl cl, .int .u32 (q : Int), .slice AA na ca, .slice AB nb cb, .int .u64 (entry : Int), .int .u64 (N : Int)] w (IsPost w (.bool true)) := by
  have H := Lib.hid (well_any AL nl cl l false w hr (by simp [hw]))
  clear hr ha hb hq he hN
  clear hw
  go_enter Try.func11, Try.ntmps11
  go_wp2_with fail
  refine H.out.mono ?_
  rintro en w1 ⟨rfl, hb1⟩
  have HB := Lib.hid hb1
  clear hb1
  go_wp2_with fail
  go_ret
  exact ⟨rfl, HB.out⟩

set_option maxRecDepth 100000 in
set_option maxHeartbeats 1000000 in
theorem law11g (AL AA AB : Option Addr) (nl cl na ca nb cb q entry N : Nat) (l : List (Nat × Int)) (ahead behind : List UInt8) (w : World) (hr : Rs w w.heap.size AL nl cl l) (ha : Bs w w.heap.size AA na ca ahead) (hb : Bs w w.heap.size AB nb cb behind) (hq : q < 4294967296) (he : entry < 18446744073709551616) (hN : N < 18446744073709551616) (s1 : nl ≤ 2147483647) (s2 : na ≤ 2147483647) (s3 : nb ≤ 2147483647) (g1 : nb ≤ 16777216) (g2 : na ≤ 16777216) (hw : WellL l) (hg : ¬ ((q = 1 ∨ q = 2 ∨ q = 4) ∧ entry < 1152921504606846976)) :
    Calls Try.prog 11 #[.slice AL nl cl, .int .u32 (q : Int), .slice AA na ca, .slice AB nb cb, .int .u64 (entry : Int), .int .u64 (N : Int)] w (IsPost w (.bool true)) := by
  have H := Lib.hid (well_any AL nl cl l true w hr (by simp [hw]))
  have HG := Lib.hid hg
  clear hr ha hb hq he hN
  clear hw hg
  go_enter Try.func11, Try.ntmps11
  go_wp2_with fail
  refine H.out.mono ?_
  rintro en w1 ⟨rfl, hb1⟩
  have HB := Lib.hid hb1
  clear hb1
  go_wp2_with fail
  refine (good_no q entry w1 HG.out).mono ?_
  rintro en w' ⟨rfl, rfl⟩
  go_wp2_with fail
  go_ret
  exact ⟨rfl, HB.out⟩

set_option maxRecDepth 100000 in
set_option maxHeartbeats 1000000 in
theorem law11h (AL AA AB : Option Addr) (nl cl na ca nb cb q entry N : Nat) (l : List (Nat × Int)) (ahead behind : List UInt8) (w : World) (hr : Rs w w.heap.size AL nl cl l) (ha : Bs w w.heap.size AA na ca ahead) (hb : Bs w w.heap.size AB nb cb behind) (hq : q < 4294967296) (he : entry < 18446744073709551616) (hN : N < 18446744073709551616) (s1 : nl ≤ 2147483647) (s2 : na ≤ 2147483647) (s3 : nb ≤ 2147483647) (g1 : nb ≤ 16777216) (g2 : na ≤ 16777216) (hw : WellL l) (hg : (q = 1 ∨ q = 2 ∨ q = 4) ∧ entry < 1152921504606846976) (kh : ¬ (N : Int) ≤ 288230376151711744) :
    Calls Try.prog 11 #[.slice AL nl cl, .int .u32 (q : Int), .slice AA na ca, .slice AB nb cb, .int .u64 (entry : Int), .int .u64 (N : Int)] w (IsPost w (.bool true)) := by
  have H := Lib.hid (well_any AL nl cl l true w hr (by simp [hw]))
  have HG := Lib.hid hg
  clear hr ha hb hq he hN
  clear hw hg
  go_enter Try.func11, Try.ntmps11
  go_wp2_with fail
  refine H.out.mono ?_
  rintro en w1 ⟨rfl, hb1⟩
  have HB := Lib.hid hb1
  clear hb1
  go_wp2_with fail
  refine (good_yes q entry w1 HG.out.1 HG.out.2).mono ?_
  rintro en w' ⟨rfl, rfl⟩
  go_wp2_with fail
  go_ret
  exact ⟨rfl, HB.out⟩

set_option maxRecDepth 100000 in
set_option maxHeartbeats 1000000 in
theorem law11j (AL AA AB : Option Addr) (nl cl na ca nb cb q entry N : Nat) (l : List (Nat × Int)) (ahead behind : List UInt8) (w : World) (hr : Rs w w.heap.size AL nl cl l) (ha : Bs w w.heap.size AA na ca ahead) (hb : Bs w w.heap.size AB nb cb behind) (hq : q < 4294967296) (he : entry < 18446744073709551616) (hN : N < 18446744073709551616) (s1 : nl ≤ 2147483647) (s2 : na ≤ 2147483647) (s3 : nb ≤ 2147483647) (g1 : nb ≤ 16777216) (g2 : na ≤ 16777216) (hw : WellL l) (hg : (q = 1 ∨ q = 2 ∨ q = 4) ∧ entry < 1152921504606846976) (kh : (N : Int) ≤ 288230376151711744) (kj : nl = 0) :
    Calls Try.prog 11 #[.slice AL nl cl, .int .u32 (q : Int), .slice AA na ca, .slice AB nb cb, .int .u64 (entry : Int), .int .u64 (N : Int)] w (IsPost w (.bool true)) := by
  have d0 : ((nl : Int) == 0) = true := by simp; omega
  have HK := Lib.hid kj
  have H := Lib.hid (well_any AL nl cl l true w hr (by simp [hw]))
  have HG := Lib.hid hg
  clear hr ha hb hq he hN
  clear hw hg kj
  go_enter Try.func11, Try.ntmps11
  go_wp2_with fail
  refine H.out.mono ?_
  rintro en w1 ⟨rfl, hb1⟩
  have HB := Lib.hid hb1
  clear hb1
  go_wp2_with fail
  refine (good_yes q entry w1 HG.out.1 HG.out.2).mono ?_
  rintro en w' ⟨rfl, rfl⟩
  go_wp2_with fail
  go_ret
  exact ⟨rfl, HB.out⟩

set_option maxRecDepth 100000 in
set_option maxHeartbeats 1000000 in
theorem law11k (AL AA AB : Option Addr) (nl cl na ca nb cb q entry N : Nat) (l : List (Nat × Int)) (ahead behind : List UInt8) (w : World) (hr : Rs w w.heap.size AL nl cl l) (ha : Bs w w.heap.size AA na ca ahead) (hb : Bs w w.heap.size AB nb cb behind) (hq : q < 4294967296) (he : entry < 18446744073709551616) (hN : N < 18446744073709551616) (s1 : nl ≤ 2147483647) (s2 : na ≤ 2147483647) (s3 : nb ≤ 2147483647) (g1 : nb ≤ 16777216) (g2 : na ≤ 16777216) (hw : WellL l) (hg : (q = 1 ∨ q = 2 ∨ q = 4) ∧ entry < 1152921504606846976) (kh : (N : Int) ≤ 288230376151711744) (kj : nl ≠ 0) :
    Calls Try.prog 11 #[.slice AL nl cl, .int .u32 (q : Int), .slice AA na ca, .slice AB nb cb, .int .u64 (entry : Int), .int .u64 (N : Int)] w (IsPost w (.bool true)) := by
  have hf : Fine q entry l := Fine.mk_ hw hr.len kj hg
  have hroom := hf.room
  have htl := hf.tab_le
  have hq1 := hf.q1
  have hq4 := hf.q4
  have d0 : ((nl : Int) == 0) = false := by simp; omega
  obtain ⟨T, hT⟩ : ∃ T, tab (ents (-1) l) ++ [0] = T := ⟨_, rfl⟩
  have H := Lib.hid (well_any AL nl cl l true w hr (by simp [hw]))
  have H21 := fun W (hW : Rs W W.heap.size AL nl cl l) => Lib.hid (table_any AL nl cl l W hW hf.well hf.short)
  have H24 := fun W (hW : Rs W W.heap.size AL nl cl l) => Lib.hid (at_any AL nl cl 1 N l W hW hf.well (by omega) hN)
  obtain ⟨M, hM⟩ : ∃ M, N * q = M := ⟨_, rfl⟩
  obtain ⟨M2, hM2⟩ : ∃ M, (N + 1) * q = M := ⟨_, rfl⟩
  have hMM : M2 = M + q := by rw [← hM, ← hM2, Nat.add_mul, Nat.one_mul]
  have hMb : M ≤ 1152921504606846976 := by
    rw [← hM]
    exact Nat.le_trans (Nat.mul_le_mul (show N ≤ 288230376151711744 by omega) hq4) (by decide)
  have e1 : atR q M l = atR 1 N l := by have := atR_scaled q hq1 l N 0 (by omega); rwa [Nat.add_zero, hM] at this
  have e2 : atR q (M2 - 1) l = atR 1 N l := by
    have := atR_scaled q hq1 l N (q - 1) (by omega)
    rw [hM] at this
    rw [← this]
    congr 1
    omega
  have m1 : IntKind.u64.wrap ((N : Int) * (q : Int)) = (M : Int) := by
    rw [show (N : Int) * (q : Int) = ((N * q : Nat) : Int) by simp, hM, IntKind.wrap_u64]
    omega
  have m2 : IntKind.u64.wrap (((N : Int) + 1) * (q : Int)) = (M2 : Int) := by
    rw [show ((N : Int) + 1) * (q : Int) = (((N + 1) * q : Nat) : Int) by simp, hM2, IntKind.wrap_u64]
    omega
  have hM2b : M2 ≤ 1152921504606846980 := by omega
  have hM21 : 1 ≤ M2 := by omega
  rw [hT] at H21 htl
  have HG := Lib.hid hg
  have HF := Lib.hid hf
  have HT := Lib.hid hT
  have E1 := Lib.hid e1
  have E2 := Lib.hid e2
  clear hw hg hf hT hq he hN kj hM hM2 hMM e1 e2 ha hb
  go_enter Try.func11, Try.ntmps11
  go_wp2_with fail
  refine H.out.mono ?_
  rintro en w1 ⟨rfl, hb1⟩
  have HB := Lib.hid hb1
  clear hb1
  go_wp2_with fail
  refine (good_yes q entry w1 HG.out.1 HG.out.2).mono ?_
  rintro en w' ⟨rfl, rfl⟩
  go_wp2_with fail
  refine (H21 w1 ((hr.below HB.out).more HB.out.size)).out.mono ?_
  rintro en w2 ⟨A2, c2, rfl, hown2, hbel2⟩
  have HB2 := Lib.hid (HB.out.trans (hbel2.mono HB.out.size))
  have hb2 : Bs w2 w2.heap.size A2 T.length c2 ((tab (ents (-1) l) ++ [0]) ++ []) := by rw [HT.out, List.append_nil]; exact Bs.of_own hown2
  have HT2 := Lib.hid hb2
  obtain ⟨R, hR⟩ : ∃ R, atR 1 N l = R := ⟨_, rfl⟩
  have E1R := Lib.hid (E1.out.trans hR)
  have E2R := Lib.hid (E2.out.trans hR)
  have HV0 := Lib.hid (value_runs0 A2 T.length c2 1 entry (entry + N) N l [] w2 hb2 HF.out.one rfl (by omega))
  rw [hR] at H24 HV0
  rw [show ((entry + N : Nat) : Int) = (entry : Int) + (N : Int) by omega, show ((1 : Nat) : Int) = 1 from rfl] at HV0
  rw [show ((1 : Nat) : Int) = 1 from rfl] at H24
  clear hown2 hbel2 hb2 hR
  go_wp2_with fail
  refine HV0.out.mono ?_
  rintro en w3 ⟨rfl, hbel3⟩
  have HB3 := Lib.hid (HB2.out.trans (hbel3.mono HB2.out.size))
  have HT3 := Lib.hid ((HT2.out.below hbel3).more hbel3.size)
  have HV1 := Lib.hid (value_runs0 A2 T.length c2 q entry (entry + M) M l [] w3 HT3.out HF.out rfl (by omega))
  rw [E1R.out, show ((entry + M : Nat) : Int) = (entry : Int) + (M : Int) by omega] at HV1
  clear hbel3
  go_wp2_with fail
  refine HV1.out.mono ?_
  rintro en w4 ⟨rfl, hbel4⟩
  have HB4 := Lib.hid (HB3.out.trans (hbel4.mono HB3.out.size))
  have HT4 := Lib.hid ((HT3.out.below hbel4).more hbel4.size)
  have HV2 := Lib.hid (value_runs0 A2 T.length c2 q entry (entry + (M2 - 1)) (M2 - 1) l [] w4 HT4.out HF.out rfl (by omega))
  rw [E2R.out, show ((entry + (M2 - 1) : Nat) : Int) = (entry : Int) + (M2 : Int) - 1 by omega] at HV2
  clear hbel4
  go_wp2_with fail
  refine HV2.out.mono ?_
  rintro en w5 ⟨rfl, hbel5⟩
  have HB5 := Lib.hid (HB4.out.trans (hbel5.mono HB4.out.size))
  clear hbel5
  by_cases h0 : R = 0
  · subst h0
    go_wp2_with fail
    refine (H24 w5 ((hr.below HB5.out).more HB5.out.size)).out.mono ?_
    rintro en w8 ⟨rfl, hbel8⟩
    have HR := Lib.hid (HB5.out.trans (hbel8.mono HB5.out.size))
    clear hbel8
    go_wp2_with fail
    go_ret
    exact ⟨rfl, HR.out⟩
  · have d1 : (R == 0) = false := by simpa using h0
    have d2 : (R != 0) = true := by simpa using h0
    clear h0
    go_wp2_with fail
    go_ret
    exact ⟨rfl, HB5.out⟩

theorem law11 (AL AA AB : Option Addr) (nl cl na ca nb cb q entry N : Nat) (l : List (Nat × Int)) (ahead behind : List UInt8) (w : World) (hr : Rs w w.heap.size AL nl cl l) (ha : Bs w w.heap.size AA na ca ahead) (hb : Bs w w.heap.size AB nb cb behind) (hq : q < 4294967296) (he : entry < 18446744073709551616) (hN : N < 18446744073709551616) :
    Calls Try.prog 11 #[.slice AL nl cl, .int .u32 (q : Int), .slice AA na ca, .slice AB nb cb, .int .u64 (entry : Int), .int .u64 (N : Int)] w (IsPost w (.bool true)) := by
  by_cases s1 : nl ≤ 2147483647
  case neg => exact law11a AL AA AB nl cl na ca nb cb q entry N l ahead behind w hr ha hb hq he hN s1
  by_cases s2 : na ≤ 2147483647
  case neg => exact law11b AL AA AB nl cl na ca nb cb q entry N l ahead behind w hr ha hb hq he hN s1 s2
  by_cases s3 : nb ≤ 2147483647
  case neg => exact law11c AL AA AB nl cl na ca nb cb q entry N l ahead behind w hr ha hb hq he hN s1 s2 s3
  by_cases g1 : nb ≤ 16777216
  case neg => exact law11d AL AA AB nl cl na ca nb cb q entry N l ahead behind w hr ha hb hq he hN s1 s2 s3 g1
  by_cases g2 : na ≤ 16777216
  case neg => exact law11e AL AA AB nl cl na ca nb cb q entry N l ahead behind w hr ha hb hq he hN s1 s2 s3 g1 g2
  by_cases hw : WellL l
  case neg => exact law11f AL AA AB nl cl na ca nb cb q entry N l ahead behind w hr ha hb hq he hN s1 s2 s3 g1 g2 hw
  by_cases hg : (q = 1 ∨ q = 2 ∨ q = 4) ∧ entry < 1152921504606846976
  case neg => exact law11g AL AA AB nl cl na ca nb cb q entry N l ahead behind w hr ha hb hq he hN s1 s2 s3 g1 g2 hw hg
  by_cases kh : (N : Int) ≤ 288230376151711744
  case neg => exact law11h AL AA AB nl cl na ca nb cb q entry N l ahead behind w hr ha hb hq he hN s1 s2 s3 g1 g2 hw hg kh
  by_cases kj : nl ≠ 0
  case neg => exact law11j AL AA AB nl cl na ca nb cb q entry N l ahead behind w hr ha hb hq he hN s1 s2 s3 g1 g2 hw hg kh (by omega)
  exact law11k AL AA AB nl cl na ca nb cb q entry N l ahead behind w hr ha hb hq he hN s1 s2 s3 g1 g2 hw hg kh kj

end Go.Proofs.Ytfbnnbbjfjhkjaa
