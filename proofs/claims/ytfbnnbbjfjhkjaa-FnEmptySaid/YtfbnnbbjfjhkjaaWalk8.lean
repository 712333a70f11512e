/- The walk of the law FnEmpty. -/
import Derived.Test.YtfbnnbbjfjhkjaaTabv
namespace Go.Proofs.Ytfbnnbbjfjhkjaa
open Go.RowKit
set_option linter.unusedVariables false

set_option maxRecDepth 100000 in
set_option maxHeartbeats 1000000 in
theorem law8a (AL AA AB : Option Addr) (nl cl na ca nb cb q entry N : Nat) (l : List (Nat × Int)) (ahead behind : List UInt8) (w : World) (hr : Rs w w.heap.size AL nl cl l) (ha : Bs w w.heap.size AA na ca ahead) (hb : Bs w w.heap.size AB nb cb behind) (hq : q < 4294967296) (he : entry < 18446744073709551616) (hN : N < 18446744073709551616) (s1 : ¬ nl ≤ 2147483647) :
    Calls Try.prog 8 #[.slice AL nl cl, .int .u32 (q : Int), .slice AA na ca, .slice AB nb cb, .int .u64 (entry : Int), .int .u64 (N : Int)] w (IsPost w (.bool true)) := by
  clear hr ha hb hq he hN
  go_enter Try.func8, Try.ntmps8
  go_wp2_with fail
  go_ret
  exact ⟨rfl, Below.refl _ _⟩

set_option maxRecDepth 100000 in
set_option maxHeartbeats 1000000 in
theorem law8b (AL AA AB : Option Addr) (nl cl na ca nb cb q entry N : Nat) (l : List (Nat × Int)) (ahead behind : List UInt8) (w : World) (hr : Rs w w.heap.size AL nl cl l) (ha : Bs w w.heap.size AA na ca ahead) (hb : Bs w w.heap.size AB nb cb behind) (hq : q < 4294967296) (he : entry < 18446744073709551616) (hN : N < 18446744073709551616) (s1 : nl ≤ 2147483647) (s2 : ¬ na ≤ 2147483647) :
    Calls Try.prog 8 #[.slice AL nl cl, .int .u32 (q : Int), .slice AA na ca, .slice AB nb cb, .int .u64 (entry : Int), .int .u64 (N : Int)] w (IsPost w (.bool true)) := by
  clear hr ha hb hq he hN
  go_enter Try.func8, Try.ntmps8
  go_wp2_with fail
  go_ret
  exact ⟨rfl, Below.refl _ _⟩

set_option maxRecDepth 100000 in
set_option maxHeartbeats 1000000 in
theorem law8c (AL AA AB : Option Addr) (nl cl na ca nb cb q entry N : Nat) (l : List (Nat × Int)) (ahead behind : List UInt8) (w : World) (hr : Rs w w.heap.size AL nl cl l) (ha : Bs w w.heap.size AA na ca ahead) (hb : Bs w w.heap.size AB nb cb behind) (hq : q < 4294967296) (he : entry < 18446744073709551616) (hN : N < 18446744073709551616) (s1 : nl ≤ 2147483647) (s2 : na ≤ 2147483647) (s3 : ¬ nb ≤ 2147483647) :
    Calls Try.prog 8 #[.slice AL nl cl, .int .u32 (q : Int), .slice AA na ca, .slice AB nb cb, .int .u64 (entry : Int), .int .u64 (N : Int)] w (IsPost w (.bool true)) := by
  clear hr ha hb hq he hN
  go_enter Try.func8, Try.ntmps8
  go_wp2_with fail
  go_ret
  exact ⟨rfl, Below.refl _ _⟩

set_option maxRecDepth 100000 in
set_option maxHeartbeats 1000000 in
theorem law8d (AL AA AB : Option Addr) (nl cl na ca nb cb q entry N : Nat) (l : List (Nat × Int)) (ahead behind : List UInt8) (w : World) (hr : Rs w w.heap.size AL nl cl l) (ha : Bs w w.heap.size AA na ca ahead) (hb : Bs w w.heap.size AB nb cb behind) (hq : q < 4294967296) (he : entry < 18446744073709551616) (hN : N < 18446744073709551616) (s1 : nl ≤ 2147483647) (s2 : na ≤ 2147483647) (s3 : nb ≤ 2147483647) (g1 : ¬ nb ≤ 16777216) :
    Calls Try.prog 8 #[.slice AL nl cl, .int .u32 (q : Int), .slice AA na ca, .slice AB nb cb, .int .u64 (entry : Int), .int .u64 (N : Int)] w (IsPost w (.bool true)) := by
  clear hr ha hb hq he hN
  go_enter Try.func8, Try.ntmps8
  go_wp2_with fail
  go_ret
  exact ⟨rfl, Below.refl _ _⟩

set_option maxRecDepth 100000 in
set_option maxHeartbeats 1000000 in
theorem law8e (AL AA AB : Option Addr) (nl cl na ca nb cb q entry N : Nat) (l : List (Nat × Int)) (ahead behind : List UInt8) (w : World) (hr : Rs w w.heap.size AL nl cl l) (ha : Bs w w.heap.size AA na ca ahead) (hb : Bs w w.heap.size AB nb cb behind) (hq : q < 4294967296) (he : entry < 18446744073709551616) (hN : N < 18446744073709551616) (s1 : nl ≤ 2147483647) (s2 : na ≤ 2147483647) (s3 : nb ≤ 2147483647) (g1 : nb ≤ 16777216) (g2 : ¬ na ≤ 16777216) :
    Calls Try.prog 8 #[.slice AL nl cl, .int .u32 (q : Int), .slice AA na ca, .slice AB nb cb, .int .u64 (entry : Int), .int .u64 (N : Int)] w (IsPost w (.bool true)) := by
  clear hr ha hb hq he hN
  go_enter Try.func8, Try.ntmps8
  go_wp2_with fail
  go_ret
  exact ⟨rfl, Below.refl _ _⟩

set_option maxRecDepth 100000 in
set_option maxHeartbeats 1000000 in
theorem law8f (AL AA AB : Option Addr) (nl cl na ca nb cb q entry N : Nat) (l : List (Nat × Int)) (ahead behind : List UInt8) (w : World) (hr : Rs w w.heap.size AL nl cl l) (ha : Bs w w.heap.size AA na ca ahead) (hb : Bs w w.heap.size AB nb cb behind) (hq : q < 4294967296) (he : entry < 18446744073709551616) (hN : N < 18446744073709551616) (s1 : nl ≤ 2147483647) (s2 : na ≤ 2147483647) (s3 : nb ≤ 2147483647) (g1 : nb ≤ 16777216) (g2 : na ≤ 16777216) (hw : ¬ WellL l) :
    Calls Try.prog 8 #[.slice AL nl cl, .int .u32 (q : Int), .slice AA na ca, .slice AB nb cb, .int .u64 (entry : Int), .int .u64 (N : Int)] w (IsPost w (.bool true)) := by
  have H := Lib.hid (well_any AL nl cl l false w hr (by simp [hw]))
  clear hr ha hb hq he hN
  clear hw
  go_enter Try.func8, Try.ntmps8
  go_wp2_with fail
  refine H.out.mono ?_
  rintro en w1 ⟨rfl, hb1⟩
  have HB := Lib.hid hb1
  clear hb1
  go_wp2_with fail
  go_ret
  exact ⟨rfl, HB.out⟩

set_option maxRecDepth 100000 in
set_option maxHeartbeats 1000000 in
theorem law8g (AL AA AB : Option Addr) (nl cl na ca nb cb q entry N : Nat) (l : List (Nat × Int)) (ahead behind : List UInt8) (w : World) (hr : Rs w w.heap.size AL nl cl l) (ha : Bs w w.heap.size AA na ca ahead) (hb : Bs w w.heap.size AB nb cb behind) (hq : q < 4294967296) (he : entry < 18446744073709551616) (hN : N < 18446744073709551616) (s1 : nl ≤ 2147483647) (s2 : na ≤ 2147483647) (s3 : nb ≤ 2147483647) (g1 : nb ≤ 16777216) (g2 : na ≤ 16777216) (hw : WellL l) (hg : ¬ ((q = 1 ∨ q = 2 ∨ q = 4) ∧ entry < 1152921504606846976)) :
    Calls Try.prog 8 #[.slice AL nl cl, .int .u32 (q : Int), .slice AA na ca, .slice AB nb cb, .int .u64 (entry : Int), .int .u64 (N : Int)] w (IsPost w (.bool true)) := by
  have H := Lib.hid (well_any AL nl cl l true w hr (by simp [hw]))
  have HG := Lib.hid hg
  clear hr ha hb hq he hN
  clear hw hg
  go_enter Try.func8, Try.ntmps8
  go_wp2_with fail
  refine H.out.mono ?_
  rintro en w1 ⟨rfl, hb1⟩
  have HB := Lib.hid hb1
  clear hb1
  go_wp2_with fail
  refine (good_no q entry w1 HG.out).mono ?_
  rintro en w' ⟨rfl, rfl⟩
  go_wp2_with fail
  go_ret
  exact ⟨rfl, HB.out⟩

set_option maxRecDepth 100000 in
set_option maxHeartbeats 1000000 in
theorem law8h (AL AA AB : Option Addr) (nl cl na ca nb cb q entry N : Nat) (l : List (Nat × Int)) (ahead behind : List UInt8) (w : World) (hr : Rs w w.heap.size AL nl cl l) (ha : Bs w w.heap.size AA na ca ahead) (hb : Bs w w.heap.size AB nb cb behind) (hq : q < 4294967296) (he : entry < 18446744073709551616) (hN : N < 18446744073709551616) (s1 : nl ≤ 2147483647) (s2 : na ≤ 2147483647) (s3 : nb ≤ 2147483647) (g1 : nb ≤ 16777216) (g2 : na ≤ 16777216) (hw : WellL l) (hg : (q = 1 ∨ q = 2 ∨ q = 4) ∧ entry < 1152921504606846976) (kh : ¬ (N : Int) ≤ 1152921504606846976) :
    Calls Try.prog 8 #[.slice AL nl cl, .int .u32 (q : Int), .slice AA na ca, .slice AB nb cb, .int .u64 (entry : Int), .int .u64 (N : Int)] w (IsPost w (.bool true)) := by
  have H := Lib.hid (well_any AL nl cl l true w hr (by simp [hw]))
  have HG := Lib.hid hg
  clear hr ha hb hq he hN
  clear hw hg
  go_enter Try.func8, Try.ntmps8
  go_wp2_with fail
  refine H.out.mono ?_
  rintro en w1 ⟨rfl, hb1⟩
  have HB := Lib.hid hb1
  clear hb1
  go_wp2_with fail
  refine (good_yes q entry w1 HG.out.1 HG.out.2).mono ?_
  rintro en w' ⟨rfl, rfl⟩
  go_wp2_with fail
  go_ret
  exact ⟨rfl, HB.out⟩

set_option maxRecDepth 100000 in
set_option maxHeartbeats 1000000 in
theorem law8j (AL AA AB : Option Addr) (nl cl na ca nb cb q entry N : Nat) (l : List (Nat × Int)) (ahead behind : List UInt8) (w : World) (hr : Rs w w.heap.size AL nl cl l) (ha : Bs w w.heap.size AA na ca ahead) (hb : Bs w w.heap.size AB nb cb behind) (hq : q < 4294967296) (he : entry < 18446744073709551616) (hN : N < 18446744073709551616) (s1 : nl ≤ 2147483647) (s2 : na ≤ 2147483647) (s3 : nb ≤ 2147483647) (g1 : nb ≤ 16777216) (g2 : na ≤ 16777216) (hw : WellL l) (hg : (q = 1 ∨ q = 2 ∨ q = 4) ∧ entry < 1152921504606846976) (kh : (N : Int) ≤ 1152921504606846976) (kj : nl = 0) :
    Calls Try.prog 8 #[.slice AL nl cl, .int .u32 (q : Int), .slice AA na ca, .slice AB nb cb, .int .u64 (entry : Int), .int .u64 (N : Int)] w (IsPost w (.bool true)) := by
  have d0 : ((nl : Int) == 0) = true := by simp; omega
  have HK := Lib.hid kj
  have H := Lib.hid (well_any AL nl cl l true w hr (by simp [hw]))
  have HG := Lib.hid hg
  clear hr ha hb hq he hN
  clear hw hg kj
  go_enter Try.func8, Try.ntmps8
  go_wp2_with fail
  refine H.out.mono ?_
  rintro en w1 ⟨rfl, hb1⟩
  have HB := Lib.hid hb1
  clear hb1
  go_wp2_with fail
  refine (good_yes q entry w1 HG.out.1 HG.out.2).mono ?_
  rintro en w' ⟨rfl, rfl⟩
  go_wp2_with fail
  go_ret
  exact ⟨rfl, HB.out⟩

set_option maxRecDepth 100000 in
set_option maxHeartbeats 1000000 in
theorem law8k (AL AA AB : Option Addr) (nl cl na ca nb cb q entry N : Nat) (l : List (Nat × Int)) (ahead behind : List UInt8) (w : World) (hr : Rs w w.heap.size AL nl cl l) (ha : Bs w w.heap.size AA na ca ahead) (hb : Bs w w.heap.size AB nb cb behind) (hq : q < 4294967296) (he : entry < 18446744073709551616) (hN : N < 18446744073709551616) (s1 : nl ≤ 2147483647) (s2 : na ≤ 2147483647) (s3 : nb ≤ 2147483647) (g1 : nb ≤ 16777216) (g2 : na ≤ 16777216) (hw : WellL l) (hg : (q = 1 ∨ q = 2 ∨ q = 4) ∧ entry < 1152921504606846976) (kh : (N : Int) ≤ 1152921504606846976) (kj : nl ≠ 0) :
    Calls Try.prog 8 #[.slice AL nl cl, .int .u32 (q : Int), .slice AA na ca, .slice AB nb cb, .int .u64 (entry : Int), .int .u64 (N : Int)] w (IsPost w (.bool true)) := by
  have hf : Fine q entry l := Fine.mk_ hw hr.len kj hg
  have hsz := hf.size
  have hroom := hf.room
  have hbeh := atR_behind q l (sizeR q l + N) (by omega)
  have htl := hf.tab_le
  have d0 : ((nl : Int) == 0) = false := by simp; omega
  have hnb := hb.len
  obtain ⟨T, hT⟩ : ∃ T, tab (ents (-1) l) ++ [0] = T := ⟨_, rfl⟩
  have H := Lib.hid (well_any AL nl cl l true w hr (by simp [hw]))
  have H21 := fun W (hW : Rs W W.heap.size AL nl cl l) => Lib.hid (table_any AL nl cl l W hW hf.well hf.short)
  have H23 := fun W (hW : Rs W W.heap.size AL nl cl l) => Lib.hid (size_any AL nl cl q l W hW hf.well hf.short hf.q4)
  rw [hT] at H21 htl
  have HG := Lib.hid hg
  have HF := Lib.hid hf
  have HT := Lib.hid hT
  have HBH := Lib.hid hbeh
  clear hw hg hf hT hbeh ha hq he hN kj
  go_enter Try.func8, Try.ntmps8
  go_wp2_with fail
  refine H.out.mono ?_
  rintro en w1 ⟨rfl, hb1⟩
  have HB := Lib.hid hb1
  clear hb1
  go_wp2_with fail
  refine (good_yes q entry w1 HG.out.1 HG.out.2).mono ?_
  rintro en w' ⟨rfl, rfl⟩
  go_wp2_with fail
  refine (H21 w1 ((hr.below HB.out).more HB.out.size)).out.mono ?_
  rintro en w2 ⟨A2, c2, rfl, hown2, hbel2⟩
  have HB2 := Lib.hid (HB.out.trans (hbel2.mono HB.out.size))
  have HO2 := Lib.hid (ownsRow_base hown2 HB.out.size)
  have hb2 := hb.below HB2.out
  clear hown2 hbel2
  go_wp2_with (at_builtin; refine append_bytes (w0 := w) rfl _ _ rfl rfl HO2.out HB2.out rfl hb2 ?c1 ?_)
  case c1 => omega
  intro A3 n3 c3 w3 hown3 hbel3 _
  have hn3 := own_bytes hown3
  simp only [List.length_append] at hn3
  have hn3' : n3 ≤ 20000000 := by omega
  have HO3 := Lib.hid hown3
  have HB3 := Lib.hid hbel3
  clear hown3 hbel3 hn3 hb2
  go_wp2_with fail
  refine (H23 w3 ((hr.below HB3.out).more HB3.out.size)).out.mono ?_
  rintro en w4 ⟨rfl, hbel4⟩
  have HB4 := Lib.hid (HB3.out.trans (hbel4.mono HB3.out.size))
  have hb4 := (Bs.of_own HO3.out).below hbel4
  have hb4' := hb4.more hbel4.size
  rw [← HT.out] at hb4'
  have HV := Lib.hid (value_runs0 A3 n3 c3 q entry (entry + sizeR q l + N) (sizeR q l + N) l behind w4 hb4' HF.out (by omega) (by omega))
  rw [HBH.out] at HV
  clear hbel4 hb4 hb4' hb hr
  generalize sizeR q l = s at *
  go_wp2_with fail
  rw [show ((entry + s + N : Nat) : Int) = (entry : Int) + (s : Int) + (N : Int) by omega] at HV
  refine HV.out.mono ?_
  rintro en w5 ⟨rfl, hbel5⟩
  have HR := Lib.hid (HB4.out.trans (hbel5.mono HB4.out.size))
  clear hbel5
  go_wp2_with fail
  go_ret
  exact ⟨rfl, HR.out⟩

theorem law8 (AL AA AB : Option Addr) (nl cl na ca nb cb q entry N : Nat) (l : List (Nat × Int)) (ahead behind : List UInt8) (w : World) (hr : Rs w w.heap.size AL nl cl l) (ha : Bs w w.heap.size AA na ca ahead) (hb : Bs w w.heap.size AB nb cb behind) (hq : q < 4294967296) (he : entry < 18446744073709551616) (hN : N < 18446744073709551616) :
    Calls Try.prog 8 #[.slice AL nl cl, .int .u32 (q : Int), .slice AA na ca, .slice AB nb cb, .int .u64 (entry : Int), .int .u64 (N : Int)] w (IsPost w (.bool true)) := by
  by_cases s1 : nl ≤ 2147483647
  case neg => exact law8a AL AA AB nl cl na ca nb cb q entry N l ahead behind w hr ha hb hq he hN s1
  by_cases s2 : na ≤ 2147483647
  case neg => exact law8b AL AA AB nl cl na ca nb cb q entry N l ahead behind w hr ha hb hq he hN s1 s2
  by_cases s3 : nb ≤ 2147483647
  case neg => exact law8c AL AA AB nl cl na ca nb cb q entry N l ahead behind w hr ha hb hq he hN s1 s2 s3
  by_cases g1 : nb ≤ 16777216
  case neg => exact law8d AL AA AB nl cl na ca nb cb q entry N l ahead behind w hr ha hb hq he hN s1 s2 s3 g1
  by_cases g2 : na ≤ 16777216
  case neg => exact law8e AL AA AB nl cl na ca nb cb q entry N l ahead behind w hr ha hb hq he hN s1 s2 s3 g1 g2
  by_cases hw : WellL l
  case neg => exact law8f AL AA AB nl cl na ca nb cb q entry N l ahead behind w hr ha hb hq he hN s1 s2 s3 g1 g2 hw
  by_cases hg : (q = 1 ∨ q = 2 ∨ q = 4) ∧ entry < 1152921504606846976
  case neg => exact law8g AL AA AB nl cl na ca nb cb q entry N l ahead behind w hr ha hb hq he hN s1 s2 s3 g1 g2 hw hg
  by_cases kh : (N : Int) ≤ 1152921504606846976
  case neg => exact law8h AL AA AB nl cl na ca nb cb q entry N l ahead behind w hr ha hb hq he hN s1 s2 s3 g1 g2 hw hg kh
  by_cases kj : nl ≠ 0
  case neg => exact law8j AL AA AB nl cl na ca nb cb q entry N l ahead behind w hr ha hb hq he hN s1 s2 s3 g1 g2 hw hg kh (by omega)
  exact law8k AL AA AB nl cl na ca nb cb q entry N l ahead behind w hr ha hb hq he hN s1 s2 s3 g1 g2 hw hg kh kj

end Go.Proofs.Ytfbnnbbjfjhkjaa
