/- The walk of the law FnMoved. -/
import Derived.Test.YtfbnnbbjfjhkjaaTabv
import Derived.Test.YtfbnnbbjfjhkjaaGrow
namespace Go.Proofs.Ytfbnnbbjfjhkjaa
open Go.RowKit
set_option linter.unusedVariables false

set_option maxRecDepth 100000 in
set_option maxHeartbeats 1000000 in
theorem law10a (AL AA AB : Option Addr) (nl cl na ca nb cb q entry N : Nat) (l : List (Nat × Int)) (ahead behind : List UInt8) (w : World) (hr : Rs w w.heap.size AL nl cl l) (ha : Bs w w.heap.size AA na ca ahead) (hb : Bs w w.heap.size AB nb cb behind) (hq : q < 4294967296) (he : entry < 18446744073709551616) (hN : N < 18446744073709551616) (s1 : ¬ nl ≤ 2147483647) :
    Calls Try.prog 10 #[.slice AL nl cl, .int .u32 (q : Int), .slice AA na ca, .slice AB nb cb, .int .u64 (entry : Int), .int .u64 (N : Int)] w (IsPost w (.bool true)) := by
  clear hr ha hb hq he hN
  go_enter Try.func10, Try.ntmps10
  go_wp2_with fail
  go_ret
  exact ⟨rfl, Below.refl _ _⟩

set_option maxRecDepth 100000 in
set_option maxHeartbeats 1000000 in
theorem law10b (AL AA AB : Option Addr) (nl cl na ca nb cb q entry N : Nat) (l : List (Nat × Int)) (ahead behind : List UInt8) (w : World) (hr : Rs w w.heap.size AL nl cl l) (ha : Bs w w.heap.size AA na ca ahead) (hb : Bs w w.heap.size AB nb cb behind) (hq : q < 4294967296) (he : entry < 18446744073709551616) (hN : N < 18446744073709551616) (s1 : nl ≤ 2147483647) (s2 : ¬ na ≤ 2147483647) :
    Calls Try.prog 10 #[.slice AL nl cl, .int .u32 (q : Int), .slice AA na ca, .slice AB nb cb, .int .u64 (entry : Int), .int .u64 (N : Int)] w (IsPost w (.bool true)) := by
  clear hr ha hb hq he hN
  go_enter Try.func10, Try.ntmps10
  go_wp2_with fail
  go_ret
  exact ⟨rfl, Below.refl _ _⟩

set_option maxRecDepth 100000 in
set_option maxHeartbeats 1000000 in
theorem law10c (AL AA AB : Option Addr) (nl cl na ca nb cb q entry N : Nat) (l : List (Nat × Int)) (ahead behind : List UInt8) (w : World) (hr : Rs w w.heap.size AL nl cl l) (ha : Bs w w.heap.size AA na ca ahead) (hb : Bs w w.heap.size AB nb cb behind) (hq : q < 4294967296) (he : entry < 18446744073709551616) (hN : N < 18446744073709551616) (s1 : nl ≤ 2147483647) (s2 : na ≤ 2147483647) (s3 : ¬ nb ≤ 2147483647) :
    Calls Try.prog 10 #[.slice AL nl cl, .int .u32 (q : Int), .slice AA na ca, .slice AB nb cb, .int .u64 (entry : Int), .int .u64 (N : Int)] w (IsPost w (.bool true)) := by
  clear hr ha hb hq he hN
  go_enter Try.func10, Try.ntmps10
  go_wp2_with fail
  go_ret
  exact ⟨rfl, Below.refl _ _⟩

set_option maxRecDepth 100000 in
set_option maxHeartbeats 1000000 in
theorem law10d (AL AA AB : Option Addr) (nl cl na ca nb cb q entry N : Nat) (l : List (Nat × Int)) (ahead behind : List UInt8) (w : World) (hr : Rs w w.heap.size AL nl cl l) (ha : Bs w w.heap.size AA na ca ahead) (hb : Bs w w.heap.size AB nb cb behind) (hq : q < 4294967296) (he : entry < 18446744073709551616) (hN : N < 18446744073709551616) (s1 : nl ≤ 2147483647) (s2 : na ≤ 2147483647) (s3 : nb ≤ 2147483647) (g1 : ¬ nb ≤ 16777216) :
    Calls Try.prog 10 #[.slice AL nl cl, .int .u32 (q : Int), .slice AA na ca, .slice AB nb cb, .int .u64 (entry : Int), .int .u64 (N : Int)] w (IsPost w (.bool true)) := by
  clear hr ha hb hq he hN
  go_enter Try.func10, Try.ntmps10
  go_wp2_with fail
  go_ret
  exact ⟨rfl, Below.refl _ _⟩

set_option maxRecDepth 100000 in
set_option maxHeartbeats 1000000 in
theorem law10e (AL AA AB : Option Addr) (nl cl na ca nb cb q entry N : Nat) (l : List (Nat × Int)) (ahead behind : List UInt8) (w : World) (hr : Rs w w.heap.size AL nl cl l) (ha : Bs w w.heap.size AA na ca ahead) (hb : Bs w w.heap.size AB nb cb behind) (hq : q < 4294967296) (he : entry < 18446744073709551616) (hN : N < 18446744073709551616) (s1 : nl ≤ 2147483647) (s2 : na ≤ 2147483647) (s3 : nb ≤ 2147483647) (g1 : nb ≤ 16777216) (g2 : ¬ na ≤ 16777216) :
    Calls Try.prog 10 #[.slice AL nl cl, .int .u32 (q : Int), .slice AA na ca, .slice AB nb cb, .int .u64 (entry : Int), .int .u64 (N : Int)] w (IsPost w (.bool true)) := by
  clear hr ha hb hq he hN
  go_enter Try.func10, Try.ntmps10
  go_wp2_with fail
  go_ret
  exact ⟨rfl, Below.refl _ _⟩

set_option maxRecDepth 100000 in
set_option maxHeartbeats 1000000 in
theorem law10f (AL AA AB : Option Addr) (nl cl na ca nb cb q entry N : Nat) (l : List (Nat × Int)) (ahead behind : List UInt8) (w : World) (hr : Rs w w.heap.size AL nl cl l) (ha : Bs w w.heap.size AA na ca ahead) (hb : Bs w w.heap.size AB nb cb behind) (hq : q < 4294967296) (he : entry < 18446744073709551616) (hN : N < 18446744073709551616) (s1 : nl ≤ 2147483647) (s2 : na ≤ 2147483647) (s3 : nb ≤ 2147483647) (g1 : nb ≤ 16777216) (g2 : na ≤ 16777216) (hw : ¬ WellL l) :
    Calls Try.prog 10 #[.slice AL nl cl, .int .u32 (q : Int), .slice AA na ca, .slice AB nb cb, .int .u64 (entry : Int), .int .u64 (N : Int)] w (IsPost w (.bool true)) := by
  have H := Lib.hid (well_any AL nl cl l false w hr (by simp [hw]))
  clear hr ha hb hq he hN
  clear hw
  go_enter Try.func10, Try.ntmps10
  go_wp2_with fail
  refine H.out.mono ?_
  rintro en w1 ⟨rfl, hb1⟩
  have HB := Lib.hid hb1
  clear hb1
  go_wp2_with fail
  go_ret
  exact ⟨rfl, HB.out⟩

set_option maxRecDepth 100000 in
set_option maxHeartbeats 1000000 in
theorem law10g (AL AA AB : Option Addr) (nl cl na ca nb cb q entry N : Nat) (l : List (Nat × Int)) (ahead behind : List UInt8) (w : World) (hr : Rs w w.heap.size AL nl cl l) (ha : Bs w w.heap.size AA na ca ahead) (hb : Bs w w.heap.size AB nb cb behind) (hq : q < 4294967296) (he : entry < 18446744073709551616) (hN : N < 18446744073709551616) (s1 : nl ≤ 2147483647) (s2 : na ≤ 2147483647) (s3 : nb ≤ 2147483647) (g1 : nb ≤ 16777216) (g2 : na ≤ 16777216) (hw : WellL l) (hg : ¬ ((q = 1 ∨ q = 2 ∨ q = 4) ∧ entry < 1152921504606846976)) :
    Calls Try.prog 10 #[.slice AL nl cl, .int .u32 (q : Int), .slice AA na ca, .slice AB nb cb, .int .u64 (entry : Int), .int .u64 (N : Int)] w (IsPost w (.bool true)) := by
  have H := Lib.hid (well_any AL nl cl l true w hr (by simp [hw]))
  have HG := Lib.hid hg
  clear hr ha hb hq he hN
  clear hw hg
  go_enter Try.func10, Try.ntmps10
  go_wp2_with fail
  refine H.out.mono ?_
  rintro en w1 ⟨rfl, hb1⟩
  have HB := Lib.hid hb1
  clear hb1
  go_wp2_with fail
  refine (good_no q entry w1 HG.out).mono ?_
  rintro en w' ⟨rfl, rfl⟩
  go_wp2_with fail
  go_ret
  exact ⟨rfl, HB.out⟩

set_option maxRecDepth 100000 in
set_option maxHeartbeats 1000000 in
theorem law10h (AL AA AB : Option Addr) (nl cl na ca nb cb q entry N : Nat) (l : List (Nat × Int)) (ahead behind : List UInt8) (w : World) (hr : Rs w w.heap.size AL nl cl l) (ha : Bs w w.heap.size AA na ca ahead) (hb : Bs w w.heap.size AB nb cb behind) (hq : q < 4294967296) (he : entry < 18446744073709551616) (hN : N < 18446744073709551616) (s1 : nl ≤ 2147483647) (s2 : na ≤ 2147483647) (s3 : nb ≤ 2147483647) (g1 : nb ≤ 16777216) (g2 : na ≤ 16777216) (hw : WellL l) (hg : (q = 1 ∨ q = 2 ∨ q = 4) ∧ entry < 1152921504606846976) (kh : ¬ (N : Int) ≤ 1152921504606846976) :
    Calls Try.prog 10 #[.slice AL nl cl, .int .u32 (q : Int), .slice AA na ca, .slice AB nb cb, .int .u64 (entry : Int), .int .u64 (N : Int)] w (IsPost w (.bool true)) := by
  have H := Lib.hid (well_any AL nl cl l true w hr (by simp [hw]))
  have HG := Lib.hid hg
  clear hr ha hb hq he hN
  clear hw hg
  go_enter Try.func10, Try.ntmps10
  go_wp2_with fail
  refine H.out.mono ?_
  rintro en w1 ⟨rfl, hb1⟩
  have HB := Lib.hid hb1
  clear hb1
  go_wp2_with fail
  refine (good_yes q entry w1 HG.out.1 HG.out.2).mono ?_
  rintro en w' ⟨rfl, rfl⟩
  go_wp2_with fail
  go_ret
  exact ⟨rfl, HB.out⟩

set_option maxRecDepth 100000 in
set_option maxHeartbeats 1000000 in
theorem law10i (AL AA AB : Option Addr) (nl cl na ca nb cb q entry N : Nat) (l : List (Nat × Int)) (ahead behind : List UInt8) (w : World) (hr : Rs w w.heap.size AL nl cl l) (ha : Bs w w.heap.size AA na ca ahead) (hb : Bs w w.heap.size AB nb cb behind) (hq : q < 4294967296) (he : entry < 18446744073709551616) (hN : N < 18446744073709551616) (s1 : nl ≤ 2147483647) (s2 : na ≤ 2147483647) (s3 : nb ≤ 2147483647) (g1 : nb ≤ 16777216) (g2 : na ≤ 16777216) (hw : WellL l) (hg : (q = 1 ∨ q = 2 ∨ q = 4) ∧ entry < 1152921504606846976) (kh : (N : Int) ≤ 1152921504606846976) (ki : ¬ na ≤ 1048576) :
    Calls Try.prog 10 #[.slice AL nl cl, .int .u32 (q : Int), .slice AA na ca, .slice AB nb cb, .int .u64 (entry : Int), .int .u64 (N : Int)] w (IsPost w (.bool true)) := by
  have H := Lib.hid (well_any AL nl cl l true w hr (by simp [hw]))
  have HG := Lib.hid hg
  clear hr ha hb hq he hN
  clear hw hg
  go_enter Try.func10, Try.ntmps10
  go_wp2_with fail
  refine H.out.mono ?_
  rintro en w1 ⟨rfl, hb1⟩
  have HB := Lib.hid hb1
  clear hb1
  go_wp2_with fail
  refine (good_yes q entry w1 HG.out.1 HG.out.2).mono ?_
  rintro en w' ⟨rfl, rfl⟩
  go_wp2_with fail
  go_ret
  exact ⟨rfl, HB.out⟩

set_option maxRecDepth 100000 in
set_option maxHeartbeats 1000000 in
theorem law10j (AL AA AB : Option Addr) (nl cl na ca nb cb q entry N : Nat) (l : List (Nat × Int)) (ahead behind : List UInt8) (w : World) (hr : Rs w w.heap.size AL nl cl l) (ha : Bs w w.heap.size AA na ca ahead) (hb : Bs w w.heap.size AB nb cb behind) (hq : q < 4294967296) (he : entry < 18446744073709551616) (hN : N < 18446744073709551616) (s1 : nl ≤ 2147483647) (s2 : na ≤ 2147483647) (s3 : nb ≤ 2147483647) (g1 : nb ≤ 16777216) (g2 : na ≤ 16777216) (hw : WellL l) (hg : (q = 1 ∨ q = 2 ∨ q = 4) ∧ entry < 1152921504606846976) (kh : (N : Int) ≤ 1152921504606846976) (ki : na ≤ 1048576) (kj : nl = 0) :
    Calls Try.prog 10 #[.slice AL nl cl, .int .u32 (q : Int), .slice AA na ca, .slice AB nb cb, .int .u64 (entry : Int), .int .u64 (N : Int)] w (IsPost w (.bool true)) := by
  have d0 : ((nl : Int) == 0) = true := by simp; omega
  have HK := Lib.hid kj
  have H := Lib.hid (well_any AL nl cl l true w hr (by simp [hw]))
  have HG := Lib.hid hg
  clear hr ha hb hq he hN
  clear hw hg kj
  go_enter Try.func10, Try.ntmps10
  go_wp2_with fail
  refine H.out.mono ?_
  rintro en w1 ⟨rfl, hb1⟩
  have HB := Lib.hid hb1
  clear hb1
  go_wp2_with fail
  refine (good_yes q entry w1 HG.out.1 HG.out.2).mono ?_
  rintro en w' ⟨rfl, rfl⟩
  go_wp2_with fail
  go_ret
  exact ⟨rfl, HB.out⟩

set_option maxRecDepth 100000 in
set_option maxHeartbeats 1000000 in
theorem law10k (AL AA AB : Option Addr) (nl cl na ca nb cb q entry N : Nat) (l : List (Nat × Int)) (ahead behind : List UInt8) (w : World) (hr : Rs w w.heap.size AL nl cl l) (ha : Bs w w.heap.size AA na ca ahead) (hb : Bs w w.heap.size AB nb cb behind) (hq : q < 4294967296) (he : entry < 18446744073709551616) (hN : N < 18446744073709551616) (s1 : nl ≤ 2147483647) (s2 : na ≤ 2147483647) (s3 : nb ≤ 2147483647) (g1 : nb ≤ 16777216) (g2 : na ≤ 16777216) (hw : WellL l) (hg : (q = 1 ∨ q = 2 ∨ q = 4) ∧ entry < 1152921504606846976) (kh : (N : Int) ≤ 1152921504606846976) (ki : na ≤ 1048576) (kj : nl ≠ 0) :
    Calls Try.prog 10 #[.slice AL nl cl, .int .u32 (q : Int), .slice AA na ca, .slice AB nb cb, .int .u64 (entry : Int), .int .u64 (N : Int)] w (IsPost w (.bool true)) := by
  have hf : Fine q entry l := Fine.mk_ hw hr.len kj hg
  have hroom := hf.room
  have htl := hf.tab_le
  have d0 : ((nl : Int) == 0) = false := by simp; omega
  have hnb := hb.len
  have hna := ha.len
  obtain ⟨T, hT⟩ : ∃ T, tab (ents (-1) l) ++ [0] = T := ⟨_, rfl⟩
  have H := Lib.hid (well_any AL nl cl l true w hr (by simp [hw]))
  have H21 := fun W (hW : Rs W W.heap.size AL nl cl l) => Lib.hid (table_any AL nl cl l W hW hf.well hf.short)
  have H24 := fun W (hW : Rs W W.heap.size AL nl cl l) => Lib.hid (at_any AL nl cl q N l W hW hf.well hf.q4 hN)
  rw [hT] at H21 htl
  have HG := Lib.hid hg
  have HF := Lib.hid hf
  have HT := Lib.hid hT
  have HNA := Lib.hid hna
  have hna' : ahead.length ≤ 1048576 := by omega
  have HNN := Lib.hid hN
  clear hw hg hf hT hq he hN kj hna
  go_enter Try.func10, Try.ntmps10
  go_wp2_with fail
  refine H.out.mono ?_
  rintro en w1 ⟨rfl, hb1⟩
  have HB := Lib.hid hb1
  clear hb1
  go_wp2_with fail
  refine (good_yes q entry w1 HG.out.1 HG.out.2).mono ?_
  rintro en w' ⟨rfl, rfl⟩
  go_wp2_with fail
  refine (H21 w1 ((hr.below HB.out).more HB.out.size)).out.mono ?_
  rintro en w2 ⟨A2, c2, rfl, hown2, hbel2⟩
  have HB2 := Lib.hid (HB.out.trans (hbel2.mono HB.out.size))
  have HT2 := Lib.hid (Bs.of_own hown2)
  have hb2 : Bs w2 w2.heap.size A2 T.length c2 ((tab (ents (-1) l) ++ [0]) ++ []) := by rw [HT.out, List.append_nil]; exact HT2.out
  have HV0 := Lib.hid (value_runs0 A2 T.length c2 q 0 N N l [] w2 hb2 HF.out.zero (by omega) (by omega))
  clear hown2 hbel2 hb2
  obtain ⟨R, hR⟩ : ∃ R, atR q N l = R := ⟨_, rfl⟩
  have HRR := Lib.hid hR
  rw [hR] at H24 HV0
  clear hR
  go_wp2_with fail
  refine HV0.out.mono ?_
  rintro en w3 ⟨rfl, hbel3⟩
  have HB3 := Lib.hid (HB2.out.trans (hbel3.mono HB2.out.size))
  have HT3 := Lib.hid (HT2.out.below hbel3)
  have hsz3 := hbel3.size
  have HB3a := Lib.hid (HB3.out.alloc HB3.out.size (.cells #[] 5))
  have HO3 := Lib.hid (own_empty w3 5 w.heap.size HB3.out.size)
  have ha3 := ha.below HB3a.out
  clear hbel3
  go_wp2_with (at_builtin; refine append_bytes (w0 := w) rfl (.tmp 67) (.tmp 68) rfl (l := []) rfl HO3.out HB3a.out rfl ha3 ?c0 ?_)
  case c0 => omega
  intro A4 n4 c4 w4 hown4 hbel4 hg4
  have HT4 := Lib.hid ((HT3.out.alloc hsz3 (.cells #[] 5)).grown hg4 (by simp; omega) (by simp [Value.ownBlock]; omega))
  have hn4 := own_bytes hown4
  have hn4' : n4 ≤ 1048576 := by omega
  have HO4 := Lib.hid hown4
  have HB4 := Lib.hid hbel4
  clear hown4 hbel4 hn4 ha3 hg4
  have ht4 := HT4.out
  go_wp2_with (at_builtin; refine append_bytes (w0 := w) rfl (.tmp 69) (.tmp 70) rfl rfl HO4.out HB4.out rfl ht4 ?c1 ?_)
  case c1 => omega
  intro A5 n5 c5 w5 hown5 hbel5 _
  have hn5 := own_bytes hown5
  have hn5' : n5 ≤ 2000000 := by simp at hn5; omega
  have HO5 := Lib.hid hown5
  have HB5 := Lib.hid hbel5
  have hb5 := hb.below HB5.out
  clear hown5 hbel5 hn5 ht4
  go_wp2_with (at_builtin; refine append_bytes (w0 := w) rfl (.tmp 71) (.tmp 72) rfl rfl HO5.out HB5.out rfl hb5 ?c2 ?_)
  case c2 => omega
  intro A6 n6 c6 w6 hown6 hbel6 _
  have hn6 := own_bytes hown6
  have hn6' : n6 ≤ 20000000 := by simp at hn6; omega
  have hb6 : Bs w6 w6.heap.size A6 n6 c6 (ahead ++ ((tab (ents (-1) l) ++ [0]) ++ behind)) := by rw [HT.out]; simpa using Bs.of_own hown6
  have HV := Lib.hid (value_runs A6 n6 c6 q entry (entry + N) N l ahead behind w6 hb6 HF.out rfl (by have := HNA.out; omega) (by omega))
  rw [HNA.out, HRR.out] at HV
  have HB6 := Lib.hid hbel6
  clear hown6 hbel6 hn6 hb6 hb5 hb ha
  rw [show ((entry + N : Nat) : Int) = (entry : Int) + (N : Int) by omega] at HV
  by_cases h0 : R = 0
  · subst h0
    go_wp2_with fail
    refine HV.out.mono ?_
    rintro en w7 ⟨rfl, hbel7⟩
    have HB7 := Lib.hid (HB6.out.trans (hbel7.mono HB6.out.size))
    clear hbel7
    go_wp2_with fail
    refine (H24 w7 ((hr.below HB7.out).more HB7.out.size)).out.mono ?_
    rintro en w8 ⟨rfl, hbel8⟩
    have HR := Lib.hid (HB7.out.trans (hbel8.mono HB7.out.size))
    clear hbel8
    go_wp2_with fail
    go_ret
    exact ⟨rfl, HR.out⟩
  · have d1 : (R == 0) = false := by simpa using h0
    have d2 : (R != 0) = true := by simpa using h0
    clear h0
    go_wp2_with fail
    refine HV.out.mono ?_
    rintro en w7 ⟨rfl, hbel7⟩
    have HR := Lib.hid (HB6.out.trans (hbel7.mono HB6.out.size))
    clear hbel7
    go_wp2_with fail
    go_ret
    exact ⟨rfl, HR.out⟩

theorem law10 (AL AA AB : Option Addr) (nl cl na ca nb cb q entry N : Nat) (l : List (Nat × Int)) (ahead behind : List UInt8) (w : World) (hr : Rs w w.heap.size AL nl cl l) (ha : Bs w w.heap.size AA na ca ahead) (hb : Bs w w.heap.size AB nb cb behind) (hq : q < 4294967296) (he : entry < 18446744073709551616) (hN : N < 18446744073709551616) :
    Calls Try.prog 10 #[.slice AL nl cl, .int .u32 (q : Int), .slice AA na ca, .slice AB nb cb, .int .u64 (entry : Int), .int .u64 (N : Int)] w (IsPost w (.bool true)) := by
  by_cases s1 : nl ≤ 2147483647
  case neg => exact law10a AL AA AB nl cl na ca nb cb q entry N l ahead behind w hr ha hb hq he hN s1
  by_cases s2 : na ≤ 2147483647
  case neg => exact law10b AL AA AB nl cl na ca nb cb q entry N l ahead behind w hr ha hb hq he hN s1 s2
  by_cases s3 : nb ≤ 2147483647
  case neg => exact law10c AL AA AB nl cl na ca nb cb q entry N l ahead behind w hr ha hb hq he hN s1 s2 s3
  by_cases g1 : nb ≤ 16777216
  case neg => exact law10d AL AA AB nl cl na ca nb cb q entry N l ahead behind w hr ha hb hq he hN s1 s2 s3 g1
  by_cases g2 : na ≤ 16777216
  case neg => exact law10e AL AA AB nl cl na ca nb cb q entry N l ahead behind w hr ha hb hq he hN s1 s2 s3 g1 g2
  by_cases hw : WellL l
  case neg => exact law10f AL AA AB nl cl na ca nb cb q entry N l ahead behind w hr ha hb hq he hN s1 s2 s3 g1 g2 hw
  by_cases hg : (q = 1 ∨ q = 2 ∨ q = 4) ∧ entry < 1152921504606846976
  case neg => exact law10g AL AA AB nl cl na ca nb cb q entry N l ahead behind w hr ha hb hq he hN s1 s2 s3 g1 g2 hw hg
  by_cases kh : (N : Int) ≤ 1152921504606846976
  case neg => exact law10h AL AA AB nl cl na ca nb cb q entry N l ahead behind w hr ha hb hq he hN s1 s2 s3 g1 g2 hw hg kh
  by_cases ki : na ≤ 1048576
  case neg => exact law10i AL AA AB nl cl na ca nb cb q entry N l ahead behind w hr ha hb hq he hN s1 s2 s3 g1 g2 hw hg kh ki
  by_cases kj : nl ≠ 0
  case neg => exact law10j AL AA AB nl cl na ca nb cb q entry N l ahead behind w hr ha hb hq he hN s1 s2 s3 g1 g2 hw hg kh ki (by omega)
  exact law10k AL AA AB nl cl na ca nb cb q entry N l ahead behind w hr ha hb hq he hN s1 s2 s3 g1 g2 hw hg kh ki kj

end Go.Proofs.Ytfbnnbbjfjhkjaa
