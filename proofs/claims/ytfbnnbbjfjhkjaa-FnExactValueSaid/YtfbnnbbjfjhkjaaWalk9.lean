/- The walk of the law FnExactValue. -/
import Derived.Test.YtfbnnbbjfjhkjaaTabv
namespace Go.Proofs.Ytfbnnbbjfjhkjaa
open Go.RowKit
set_option linter.unusedVariables false

set_option maxRecDepth 100000 in
set_option maxHeartbeats 1000000 in
theorem law9a (AL AA AB : Option Addr) (nl cl na ca nb cb q entry N : Nat) (l : List (Nat × Int)) (ahead behind : List UInt8) (w : World) (hr : Rs w w.heap.size AL nl cl l) (ha : Bs w w.heap.size AA na ca ahead) (hb : Bs w w.heap.size AB nb cb behind) (hq : q < 4294967296) (he : entry < 18446744073709551616) (hN : N < 18446744073709551616) (s1 : ¬ nl ≤ 2147483647) :
    Calls Try.prog 9 #[.slice AL nl cl, .int .u32 (q : Int), .slice AA na ca, .slice AB nb cb, .int .u64 (entry : Int), .int .u64 (N : Int)] w (IsPost w (.bool true)) := by
  clear hr ha hb hq he hN
  go_enter Try.func9, Try.ntmps9
  go_wp2_with fail
  go_ret
  exact ⟨rfl, Below.refl _ _⟩

set_option maxRecDepth 100000 in
set_option maxHeartbeats 1000000 in
theorem law9b (AL AA AB : Option Addr) (nl cl na ca nb cb q entry N : Nat) (l : List (Nat × Int)) (ahead behind : List UInt8) (w : World) (hr : Rs w w.heap.size AL nl cl l) (ha : Bs w w.heap.size AA na ca ahead) (hb : Bs w w.heap.size AB nb cb behind) (hq : q < 4294967296) (he : entry < 18446744073709551616) (hN : N < 18446744073709551616) (s1 : nl ≤ 2147483647) (s2 : ¬ na ≤ 2147483647) :
    Calls Try.prog 9 #[.slice AL nl cl, .int .u32 (q : Int), .slice AA na ca, .slice AB nb cb, .int .u64 (entry : Int), .int .u64 (N : Int)] w (IsPost w (.bool true)) := by
  clear hr ha hb hq he hN
  go_enter Try.func9, Try.ntmps9
  go_wp2_with fail
  go_ret
  exact ⟨rfl, Below.refl _ _⟩

set_option maxRecDepth 100000 in
set_option maxHeartbeats 1000000 in
theorem law9c (AL AA AB : Option Addr) (nl cl na ca nb cb q entry N : Nat) (l : List (Nat × Int)) (ahead behind : List UInt8) (w : World) (hr : Rs w w.heap.size AL nl cl l) (ha : Bs w w.heap.size AA na ca ahead) (hb : Bs w w.heap.size AB nb cb behind) (hq : q < 4294967296) (he : entry < 18446744073709551616) (hN : N < 18446744073709551616) (s1 : nl ≤ 2147483647) (s2 : na ≤ 2147483647) (s3 : ¬ nb ≤ 2147483647) :
    Calls Try.prog 9 #[.slice AL nl cl, .int .u32 (q : Int), .slice AA na ca, .slice AB nb cb, .int .u64 (entry : Int), .int .u64 (N : Int)] w (IsPost w (.bool true)) := by
  clear hr ha hb hq he hN
  go_enter Try.func9, Try.ntmps9
  go_wp2_with fail
  go_ret
  exact ⟨rfl, Below.refl _ _⟩

set_option maxRecDepth 100000 in
set_option maxHeartbeats 1000000 in
theorem law9d (AL AA AB : Option Addr) (nl cl na ca nb cb q entry N : Nat) (l : List (Nat × Int)) (ahead behind : List UInt8) (w : World) (hr : Rs w w.heap.size AL nl cl l) (ha : Bs w w.heap.size AA na ca ahead) (hb : Bs w w.heap.size AB nb cb behind) (hq : q < 4294967296) (he : entry < 18446744073709551616) (hN : N < 18446744073709551616) (s1 : nl ≤ 2147483647) (s2 : na ≤ 2147483647) (s3 : nb ≤ 2147483647) (g1 : ¬ nb ≤ 16777216) :
    Calls Try.prog 9 #[.slice AL nl cl, .int .u32 (q : Int), .slice AA na ca, .slice AB nb cb, .int .u64 (entry : Int), .int .u64 (N : Int)] w (IsPost w (.bool true)) := by
  clear hr ha hb hq he hN
  go_enter Try.func9, Try.ntmps9
  go_wp2_with fail
  go_ret
  exact ⟨rfl, Below.refl _ _⟩

set_option maxRecDepth 100000 in
set_option maxHeartbeats 1000000 in
theorem law9e (AL AA AB : Option Addr) (nl cl na ca nb cb q entry N : Nat) (l : List (Nat × Int)) (ahead behind : List UInt8) (w : World) (hr : Rs w w.heap.size AL nl cl l) (ha : Bs w w.heap.size AA na ca ahead) (hb : Bs w w.heap.size AB nb cb behind) (hq : q < 4294967296) (he : entry < 18446744073709551616) (hN : N < 18446744073709551616) (s1 : nl ≤ 2147483647) (s2 : na ≤ 2147483647) (s3 : nb ≤ 2147483647) (g1 : nb ≤ 16777216) (g2 : ¬ na ≤ 16777216) :
    Calls Try.prog 9 #[.slice AL nl cl, .int .u32 (q : Int), .slice AA na ca, .slice AB nb cb, .int .u64 (entry : Int), .int .u64 (N : Int)] w (IsPost w (.bool true)) := by
  clear hr ha hb hq he hN
  go_enter Try.func9, Try.ntmps9
  go_wp2_with fail
  go_ret
  exact ⟨rfl, Below.refl _ _⟩

set_option maxRecDepth 100000 in
set_option maxHeartbeats 1000000 in
theorem law9f (AL AA AB : Option Addr) (nl cl na ca nb cb q entry N : Nat) (l : List (Nat × Int)) (ahead behind : List UInt8) (w : World) (hr : Rs w w.heap.size AL nl cl l) (ha : Bs w w.heap.size AA na ca ahead) (hb : Bs w w.heap.size AB nb cb behind) (hq : q < 4294967296) (he : entry < 18446744073709551616) (hN : N < 18446744073709551616) (s1 : nl ≤ 2147483647) (s2 : na ≤ 2147483647) (s3 : nb ≤ 2147483647) (g1 : nb ≤ 16777216) (g2 : na ≤ 16777216) (hw : ¬ WellL l) :
    Calls Try.prog 9 #[.slice AL nl cl, .int .u32 (q : Int), .slice AA na ca, .slice AB nb cb, .int .u64 (entry : Int), .int .u64 (N : Int)] w (IsPost w (.bool true)) := by
  have H := Lib.hid (well_any AL nl cl l false w hr (by simp [hw]))
  clear hr ha hb hq he hN
  clear hw
  go_enter Try.func9, Try.ntmps9
  go_wp2_with fail
  refine H.out.mono ?_
  rintro en w1 ⟨rfl, hb1⟩
  have HB := Lib.hid hb1
  clear hb1
  go_wp2_with fail
  go_ret
  exact ⟨rfl, HB.out⟩

set_option maxRecDepth 100000 in
set_option maxHeartbeats 1000000 in
theorem law9g (AL AA AB : Option Addr) (nl cl na ca nb cb q entry N : Nat) (l : List (Nat × Int)) (ahead behind : List UInt8) (w : World) (hr : Rs w w.heap.size AL nl cl l) (ha : Bs w w.heap.size AA na ca ahead) (hb : Bs w w.heap.size AB nb cb behind) (hq : q < 4294967296) (he : entry < 18446744073709551616) (hN : N < 18446744073709551616) (s1 : nl ≤ 2147483647) (s2 : na ≤ 2147483647) (s3 : nb ≤ 2147483647) (g1 : nb ≤ 16777216) (g2 : na ≤ 16777216) (hw : WellL l) (hg : ¬ ((q = 1 ∨ q = 2 ∨ q = 4) ∧ entry < 1152921504606846976)) :
    Calls Try.prog 9 #[.slice AL nl cl, .int .u32 (q : Int), .slice AA na ca, .slice AB nb cb, .int .u64 (entry : Int), .int .u64 (N : Int)] w (IsPost w (.bool true)) := by
  have H := Lib.hid (well_any AL nl cl l true w hr (by simp [hw]))
  have HG := Lib.hid hg
  clear hr ha hb hq he hN
  clear hw hg
  go_enter Try.func9, Try.ntmps9
  go_wp2_with fail
  refine H.out.mono ?_
  rintro en w1 ⟨rfl, hb1⟩
  have HB := Lib.hid hb1
  clear hb1
  go_wp2_with fail
  refine (good_no q entry w1 HG.out).mono ?_
  rintro en w' ⟨rfl, rfl⟩
  go_wp2_with fail
  go_ret
  exact ⟨rfl, HB.out⟩

set_option maxRecDepth 100000 in
set_option maxHeartbeats 1000000 in
theorem law9h (AL AA AB : Option Addr) (nl cl na ca nb cb q entry N : Nat) (l : List (Nat × Int)) (ahead behind : List UInt8) (w : World) (hr : Rs w w.heap.size AL nl cl l) (ha : Bs w w.heap.size AA na ca ahead) (hb : Bs w w.heap.size AB nb cb behind) (hq : q < 4294967296) (he : entry < 18446744073709551616) (hN : N < 18446744073709551616) (s1 : nl ≤ 2147483647) (s2 : na ≤ 2147483647) (s3 : nb ≤ 2147483647) (g1 : nb ≤ 16777216) (g2 : na ≤ 16777216) (hw : WellL l) (hg : (q = 1 ∨ q = 2 ∨ q = 4) ∧ entry < 1152921504606846976) (kh : ¬ (N : Int) ≤ 1152921504606846976) :
    Calls Try.prog 9 #[.slice AL nl cl, .int .u32 (q : Int), .slice AA na ca, .slice AB nb cb, .int .u64 (entry : Int), .int .u64 (N : Int)] w (IsPost w (.bool true)) := by
  have H := Lib.hid (well_any AL nl cl l true w hr (by simp [hw]))
  have HG := Lib.hid hg
  clear hr ha hb hq he hN
  clear hw hg
  go_enter Try.func9, Try.ntmps9
  go_wp2_with fail
  refine H.out.mono ?_
  rintro en w1 ⟨rfl, hb1⟩
  have HB := Lib.hid hb1
  clear hb1
  go_wp2_with fail
  refine (good_yes q entry w1 HG.out.1 HG.out.2).mono ?_
  rintro en w' ⟨rfl, rfl⟩
  go_wp2_with fail
  go_ret
  exact ⟨rfl, HB.out⟩

set_option maxRecDepth 100000 in
set_option maxHeartbeats 1000000 in
theorem law9i (AL AA AB : Option Addr) (nl cl na ca nb cb q entry N : Nat) (l : List (Nat × Int)) (ahead behind : List UInt8) (w : World) (hr : Rs w w.heap.size AL nl cl l) (ha : Bs w w.heap.size AA na ca ahead) (hb : Bs w w.heap.size AB nb cb behind) (hq : q < 4294967296) (he : entry < 18446744073709551616) (hN : N < 18446744073709551616) (s1 : nl ≤ 2147483647) (s2 : na ≤ 2147483647) (s3 : nb ≤ 2147483647) (g1 : nb ≤ 16777216) (g2 : na ≤ 16777216) (hw : WellL l) (hg : (q = 1 ∨ q = 2 ∨ q = 4) ∧ entry < 1152921504606846976) (kh : (N : Int) ≤ 1152921504606846976) (ki : ¬ na ≤ 1048576) :
    Calls Try.prog 9 #[.slice AL nl cl, .int .u32 (q : Int), .slice AA na ca, .slice AB nb cb, .int .u64 (entry : Int), .int .u64 (N : Int)] w (IsPost w (.bool true)) := by
  have H := Lib.hid (well_any AL nl cl l true w hr (by simp [hw]))
  have HG := Lib.hid hg
  clear hr ha hb hq he hN
  clear hw hg
  go_enter Try.func9, Try.ntmps9
  go_wp2_with fail
  refine H.out.mono ?_
  rintro en w1 ⟨rfl, hb1⟩
  have HB := Lib.hid hb1
  clear hb1
  go_wp2_with fail
  refine (good_yes q entry w1 HG.out.1 HG.out.2).mono ?_
  rintro en w' ⟨rfl, rfl⟩
  go_wp2_with fail
  go_ret
  exact ⟨rfl, HB.out⟩

set_option maxRecDepth 100000 in
set_option maxHeartbeats 1000000 in
theorem law9j (AL AA AB : Option Addr) (nl cl na ca nb cb q entry N : Nat) (l : List (Nat × Int)) (ahead behind : List UInt8) (w : World) (hr : Rs w w.heap.size AL nl cl l) (ha : Bs w w.heap.size AA na ca ahead) (hb : Bs w w.heap.size AB nb cb behind) (hq : q < 4294967296) (he : entry < 18446744073709551616) (hN : N < 18446744073709551616) (s1 : nl ≤ 2147483647) (s2 : na ≤ 2147483647) (s3 : nb ≤ 2147483647) (g1 : nb ≤ 16777216) (g2 : na ≤ 16777216) (hw : WellL l) (hg : (q = 1 ∨ q = 2 ∨ q = 4) ∧ entry < 1152921504606846976) (kh : (N : Int) ≤ 1152921504606846976) (ki : na ≤ 1048576) (kj : nl = 0) :
    Calls Try.prog 9 #[.slice AL nl cl, .int .u32 (q : Int), .slice AA na ca, .slice AB nb cb, .int .u64 (entry : Int), .int .u64 (N : Int)] w (IsPost w (.bool true)) := by
  have d0 : ((nl : Int) == 0) = true := by simp; omega
  have HK := Lib.hid kj
  have H := Lib.hid (well_any AL nl cl l true w hr (by simp [hw]))
  have HG := Lib.hid hg
  clear hr ha hb hq he hN
  clear hw hg kj
  go_enter Try.func9, Try.ntmps9
  go_wp2_with fail
  refine H.out.mono ?_
  rintro en w1 ⟨rfl, hb1⟩
  have HB := Lib.hid hb1
  clear hb1
  go_wp2_with fail
  refine (good_yes q entry w1 HG.out.1 HG.out.2).mono ?_
  rintro en w' ⟨rfl, rfl⟩
  go_wp2_with fail
  go_ret
  exact ⟨rfl, HB.out⟩

set_option maxRecDepth 100000 in
set_option maxHeartbeats 1000000 in
theorem law9k (AL AA AB : Option Addr) (nl cl na ca nb cb q entry N : Nat) (l : List (Nat × Int)) (ahead behind : List UInt8) (w : World) (hr : Rs w w.heap.size AL nl cl l) (ha : Bs w w.heap.size AA na ca ahead) (hb : Bs w w.heap.size AB nb cb behind) (hq : q < 4294967296) (he : entry < 18446744073709551616) (hN : N < 18446744073709551616) (s1 : nl ≤ 2147483647) (s2 : na ≤ 2147483647) (s3 : nb ≤ 2147483647) (g1 : nb ≤ 16777216) (g2 : na ≤ 16777216) (hw : WellL l) (hg : (q = 1 ∨ q = 2 ∨ q = 4) ∧ entry < 1152921504606846976) (kh : (N : Int) ≤ 1152921504606846976) (ki : na ≤ 1048576) (kj : nl ≠ 0) :
    Calls Try.prog 9 #[.slice AL nl cl, .int .u32 (q : Int), .slice AA na ca, .slice AB nb cb, .int .u64 (entry : Int), .int .u64 (N : Int)] w (IsPost w (.bool true)) := by
  have hf : Fine q entry l := Fine.mk_ hw hr.len kj hg
  have hroom := hf.room
  have htl := hf.tab_le
  have d0 : ((nl : Int) == 0) = false := by simp; omega
  have hnb := hb.len
  have hna := ha.len
  obtain ⟨T, hT⟩ : ∃ T, tab (ents (-1) l) ++ [0] = T := ⟨_, rfl⟩
  have H := Lib.hid (well_any AL nl cl l true w hr (by simp [hw]))
  have H21 := fun W (hW : Rs W W.heap.size AL nl cl l) => Lib.hid (table_any AL nl cl l W hW hf.well hf.short)
  have H24 := fun W (hW : Rs W W.heap.size AL nl cl l) => Lib.hid (at_any AL nl cl q N l W hW hf.well hf.q4 hN)
  rw [hT] at H21 htl
  have HG := Lib.hid hg
  have HF := Lib.hid hf
  have HT := Lib.hid hT
  have HNA := Lib.hid hna
  have hna' : ahead.length ≤ 1048576 := by omega
  clear hw hg hf hT hq he hN kj hna
  go_enter Try.func9, Try.ntmps9
  go_wp2_with fail
  refine H.out.mono ?_
  rintro en w1 ⟨rfl, hb1⟩
  have HB := Lib.hid hb1
  clear hb1
  go_wp2_with fail
  refine (good_yes q entry w1 HG.out.1 HG.out.2).mono ?_
  rintro en w' ⟨rfl, rfl⟩
  have HB1 := Lib.hid (HB.out.alloc HB.out.size (.cells #[] 5))
  have HO1 := Lib.hid (own_empty w1 5 w.heap.size HB.out.size)
  have ha1 := ha.below HB1.out
  go_wp2_with (at_builtin; refine append_bytes (w0 := w) rfl _ _ rfl (l := []) rfl HO1.out HB1.out rfl ha1 ?c0 ?_)
  case c0 => omega
  intro A2 n2 c2 w2 hown2 hbel2 _
  have hn2 := own_bytes hown2
  have hn2' : n2 ≤ 1048576 := by omega
  have HO2 := Lib.hid hown2
  have HB2 := Lib.hid hbel2
  clear hown2 hbel2 hn2 ha1
  go_wp2_with fail
  refine (H21 w2 ((hr.below HB2.out).more HB2.out.size)).out.mono ?_
  rintro en w3 ⟨A3, c3, rfl, hown3, hbel3⟩
  have HB3 := Lib.hid (HB2.out.trans (hbel3.mono HB2.out.size))
  have HO3 := Lib.hid (ownsRow_below HO2.out hbel3 fun g hg => (HO2.out.lt g hg).2)
  have hb3 := Bs.of_own hown3
  clear hown3 hbel3
  go_wp2_with (at_builtin; refine append_bytes (w0 := w) rfl (.tmp 62) (.tmp 64) rfl rfl HO3.out HB3.out rfl hb3 ?c1 ?_)
  case c1 => omega
  intro A4 n4 c4 w4 hown4 hbel4 _
  have hn4 := own_bytes hown4
  have hn4' : n4 ≤ 2000000 := by simp at hn4; omega
  have HO4 := Lib.hid hown4
  have HB4 := Lib.hid hbel4
  have hb4 := hb.below HB4.out
  clear hown4 hbel4 hn4 hb3
  go_wp2_with (at_builtin; refine append_bytes (w0 := w) rfl (.tmp 65) (.tmp 66) rfl rfl HO4.out HB4.out rfl hb4 ?c2 ?_)
  case c2 => omega
  intro A5 n5 c5 w5 hown5 hbel5 _
  have hn5 := own_bytes hown5
  have hn5' : n5 ≤ 20000000 := by simp at hn5; omega
  have hb5 : Bs w5 w5.heap.size A5 n5 c5 (ahead ++ ((tab (ents (-1) l) ++ [0]) ++ behind)) := by rw [HT.out]; simpa using Bs.of_own hown5
  have HV := Lib.hid (value_runs A5 n5 c5 q entry (entry + N) N l ahead behind w5 hb5 HF.out rfl (by have := HNA.out; omega) (by omega))
  rw [HNA.out] at HV
  have HB5 := Lib.hid hbel5
  clear hown5 hbel5 hn5 hb5 hb4 hb ha
  generalize atR q N l = R at *
  go_wp2_with fail
  rw [show ((entry + N : Nat) : Int) = (entry : Int) + (N : Int) by omega] at HV
  refine HV.out.mono ?_
  rintro en w6 ⟨rfl, hbel6⟩
  have HB6 := Lib.hid (HB5.out.trans (hbel6.mono HB5.out.size))
  clear hbel6
  go_wp2_with fail
  refine (H24 w6 ((hr.below HB6.out).more HB6.out.size)).out.mono ?_
  rintro en w7 ⟨rfl, hbel7⟩
  have HR := Lib.hid (HB6.out.trans (hbel7.mono HB6.out.size))
  clear hbel7
  go_wp2_with fail
  go_ret
  exact ⟨rfl, HR.out⟩

theorem law9 (AL AA AB : Option Addr) (nl cl na ca nb cb q entry N : Nat) (l : List (Nat × Int)) (ahead behind : List UInt8) (w : World) (hr : Rs w w.heap.size AL nl cl l) (ha : Bs w w.heap.size AA na ca ahead) (hb : Bs w w.heap.size AB nb cb behind) (hq : q < 4294967296) (he : entry < 18446744073709551616) (hN : N < 18446744073709551616) :
    Calls Try.prog 9 #[.slice AL nl cl, .int .u32 (q : Int), .slice AA na ca, .slice AB nb cb, .int .u64 (entry : Int), .int .u64 (N : Int)] w (IsPost w (.bool true)) := by
  by_cases s1 : nl ≤ 2147483647
  case neg => exact law9a AL AA AB nl cl na ca nb cb q entry N l ahead behind w hr ha hb hq he hN s1
  by_cases s2 : na ≤ 2147483647
  case neg => exact law9b AL AA AB nl cl na ca nb cb q entry N l ahead behind w hr ha hb hq he hN s1 s2
  by_cases s3 : nb ≤ 2147483647
  case neg => exact law9c AL AA AB nl cl na ca nb cb q entry N l ahead behind w hr ha hb hq he hN s1 s2 s3
  by_cases g1 : nb ≤ 16777216
  case neg => exact law9d AL AA AB nl cl na ca nb cb q entry N l ahead behind w hr ha hb hq he hN s1 s2 s3 g1
  by_cases g2 : na ≤ 16777216
  case neg => exact law9e AL AA AB nl cl na ca nb cb q entry N l ahead behind w hr ha hb hq he hN s1 s2 s3 g1 g2
  by_cases hw : WellL l
  case neg => exact law9f AL AA AB nl cl na ca nb cb q entry N l ahead behind w hr ha hb hq he hN s1 s2 s3 g1 g2 hw
  by_cases hg : (q = 1 ∨ q = 2 ∨ q = 4) ∧ entry < 1152921504606846976
  case neg => exact law9g AL AA AB nl cl na ca nb cb q entry N l ahead behind w hr ha hb hq he hN s1 s2 s3 g1 g2 hw hg
  by_cases kh : (N : Int) ≤ 1152921504606846976
  case neg => exact law9h AL AA AB nl cl na ca nb cb q entry N l ahead behind w hr ha hb hq he hN s1 s2 s3 g1 g2 hw hg kh
  by_cases ki : na ≤ 1048576
  case neg => exact law9i AL AA AB nl cl na ca nb cb q entry N l ahead behind w hr ha hb hq he hN s1 s2 s3 g1 g2 hw hg kh ki
  by_cases kj : nl ≠ 0
  case neg => exact law9j AL AA AB nl cl na ca nb cb q entry N l ahead behind w hr ha hb hq he hN s1 s2 s3 g1 g2 hw hg kh ki (by omega)
  exact law9k AL AA AB nl cl na ca nb cb q entry N l ahead behind w hr ha hb hq he hN s1 s2 s3 g1 g2 hw hg kh ki kj

end Go.Proofs.Ytfbnnbbjfjhkjaa
