/- The walk of the law FnWalk. -/
import Derived.Test.YtfbnnbbjfjhkjaaFw
import Derived.BigQuiet
import Derived.Deep.QuietTactic
import Derived.Deep.RegionWith
namespace Go.Proofs.Ytfbnnbbjfjhkjaa
open Go.RowKit
set_option linter.unusedVariables false

set_option maxRecDepth 100000 in
set_option maxHeartbeats 1000000 in
theorem law7a (AL AA AB : Option Addr) (nl cl na ca nb cb q entry N : Nat) (l : List (Nat × Int)) (ahead behind : List UInt8) (w : World) (hr : Rs w w.heap.size AL nl cl l) (ha : Bs w w.heap.size AA na ca ahead) (hb : Bs w w.heap.size AB nb cb behind) (hq : q < 4294967296) (he : entry < 18446744073709551616) (hN : N < 18446744073709551616) (s1 : ¬ nl ≤ 2147483647) :
    Calls Try.prog 7 #[.slice AL nl cl, .int .u32 (q : Int), .slice AA na ca, .slice AB nb cb, .int .u64 (entry : Int), .int .u64 (N : Int)] w (IsPost w (.bool true)) := by
  clear hr ha hb hq he hN
  go_enter Try.func7, Try.ntmps7
  go_wp2_with fail
  go_ret
  exact ⟨rfl, Below.refl _ _⟩

set_option maxRecDepth 100000 in
set_option maxHeartbeats 1000000 in
theorem law7b (AL AA AB : Option Addr) (nl cl na ca nb cb q entry N : Nat) (l : List (Nat × Int)) (ahead behind : List UInt8) (w : World) (hr : Rs w w.heap.size AL nl cl l) (ha : Bs w w.heap.size AA na ca ahead) (hb : Bs w w.heap.size AB nb cb behind) (hq : q < 4294967296) (he : entry < 18446744073709551616) (hN : N < 18446744073709551616) (s1 : nl ≤ 2147483647) (s2 : ¬ na ≤ 2147483647) :
    Calls Try.prog 7 #[.slice AL nl cl, .int .u32 (q : Int), .slice AA na ca, .slice AB nb cb, .int .u64 (entry : Int), .int .u64 (N : Int)] w (IsPost w (.bool true)) := by
  clear hr ha hb hq he hN
  go_enter Try.func7, Try.ntmps7
  go_wp2_with fail
  go_ret
  exact ⟨rfl, Below.refl _ _⟩

set_option maxRecDepth 100000 in
set_option maxHeartbeats 1000000 in
theorem law7c (AL AA AB : Option Addr) (nl cl na ca nb cb q entry N : Nat) (l : List (Nat × Int)) (ahead behind : List UInt8) (w : World) (hr : Rs w w.heap.size AL nl cl l) (ha : Bs w w.heap.size AA na ca ahead) (hb : Bs w w.heap.size AB nb cb behind) (hq : q < 4294967296) (he : entry < 18446744073709551616) (hN : N < 18446744073709551616) (s1 : nl ≤ 2147483647) (s2 : na ≤ 2147483647) (s3 : ¬ nb ≤ 2147483647) :
    Calls Try.prog 7 #[.slice AL nl cl, .int .u32 (q : Int), .slice AA na ca, .slice AB nb cb, .int .u64 (entry : Int), .int .u64 (N : Int)] w (IsPost w (.bool true)) := by
  clear hr ha hb hq he hN
  go_enter Try.func7, Try.ntmps7
  go_wp2_with fail
  go_ret
  exact ⟨rfl, Below.refl _ _⟩

set_option maxRecDepth 100000 in
set_option maxHeartbeats 1000000 in
theorem law7d (AL AA AB : Option Addr) (nl cl na ca nb cb q entry N : Nat) (l : List (Nat × Int)) (ahead behind : List UInt8) (w : World) (hr : Rs w w.heap.size AL nl cl l) (ha : Bs w w.heap.size AA na ca ahead) (hb : Bs w w.heap.size AB nb cb behind) (hq : q < 4294967296) (he : entry < 18446744073709551616) (hN : N < 18446744073709551616) (s1 : nl ≤ 2147483647) (s2 : na ≤ 2147483647) (s3 : nb ≤ 2147483647) (g1 : ¬ nb ≤ 16777216) :
    Calls Try.prog 7 #[.slice AL nl cl, .int .u32 (q : Int), .slice AA na ca, .slice AB nb cb, .int .u64 (entry : Int), .int .u64 (N : Int)] w (IsPost w (.bool true)) := by
  clear hr ha hb hq he hN
  go_enter Try.func7, Try.ntmps7
  go_wp2_with fail
  go_ret
  exact ⟨rfl, Below.refl _ _⟩

set_option maxRecDepth 100000 in
set_option maxHeartbeats 1000000 in
theorem law7e (AL AA AB : Option Addr) (nl cl na ca nb cb q entry N : Nat) (l : List (Nat × Int)) (ahead behind : List UInt8) (w : World) (hr : Rs w w.heap.size AL nl cl l) (ha : Bs w w.heap.size AA na ca ahead) (hb : Bs w w.heap.size AB nb cb behind) (hq : q < 4294967296) (he : entry < 18446744073709551616) (hN : N < 18446744073709551616) (s1 : nl ≤ 2147483647) (s2 : na ≤ 2147483647) (s3 : nb ≤ 2147483647) (g1 : nb ≤ 16777216) (g2 : ¬ na ≤ 16777216) :
    Calls Try.prog 7 #[.slice AL nl cl, .int .u32 (q : Int), .slice AA na ca, .slice AB nb cb, .int .u64 (entry : Int), .int .u64 (N : Int)] w (IsPost w (.bool true)) := by
  clear hr ha hb hq he hN
  go_enter Try.func7, Try.ntmps7
  go_wp2_with fail
  go_ret
  exact ⟨rfl, Below.refl _ _⟩

set_option maxRecDepth 100000 in
set_option maxHeartbeats 1000000 in
theorem law7f (AL AA AB : Option Addr) (nl cl na ca nb cb q entry N : Nat) (l : List (Nat × Int)) (ahead behind : List UInt8) (w : World) (hr : Rs w w.heap.size AL nl cl l) (ha : Bs w w.heap.size AA na ca ahead) (hb : Bs w w.heap.size AB nb cb behind) (hq : q < 4294967296) (he : entry < 18446744073709551616) (hN : N < 18446744073709551616) (s1 : nl ≤ 2147483647) (s2 : na ≤ 2147483647) (s3 : nb ≤ 2147483647) (g1 : nb ≤ 16777216) (g2 : na ≤ 16777216) (hw : ¬ WellL l) :
    Calls Try.prog 7 #[.slice AL nl cl, .int .u32 (q : Int), .slice AA na ca, .slice AB nb cb, .int .u64 (entry : Int), .int .u64 (N : Int)] w (IsPost w (.bool true)) := by
  have H := Lib.hid (well_any AL nl cl l false w hr (by simp [hw]))
  clear hr ha hb hq he hN
  clear hw
  go_enter Try.func7, Try.ntmps7
  go_wp2_with fail
  refine H.out.mono ?_
  rintro en w1 ⟨rfl, hb1⟩
  have HB := Lib.hid hb1
  clear hb1
  go_wp2_with fail
  go_ret
  exact ⟨rfl, HB.out⟩

set_option maxRecDepth 100000 in
set_option maxHeartbeats 1000000 in
theorem law7g (AL AA AB : Option Addr) (nl cl na ca nb cb q entry N : Nat) (l : List (Nat × Int)) (ahead behind : List UInt8) (w : World) (hr : Rs w w.heap.size AL nl cl l) (ha : Bs w w.heap.size AA na ca ahead) (hb : Bs w w.heap.size AB nb cb behind) (hq : q < 4294967296) (he : entry < 18446744073709551616) (hN : N < 18446744073709551616) (s1 : nl ≤ 2147483647) (s2 : na ≤ 2147483647) (s3 : nb ≤ 2147483647) (g1 : nb ≤ 16777216) (g2 : na ≤ 16777216) (hw : WellL l) (hg : ¬ ((q = 1 ∨ q = 2 ∨ q = 4) ∧ entry < 1152921504606846976)) :
    Calls Try.prog 7 #[.slice AL nl cl, .int .u32 (q : Int), .slice AA na ca, .slice AB nb cb, .int .u64 (entry : Int), .int .u64 (N : Int)] w (IsPost w (.bool true)) := by
  have H := Lib.hid (well_any AL nl cl l true w hr (by simp [hw]))
  have HG := Lib.hid hg
  clear hr ha hb hq he hN
  clear hw hg
  go_enter Try.func7, Try.ntmps7
  go_wp2_with fail
  refine H.out.mono ?_
  rintro en w1 ⟨rfl, hb1⟩
  have HB := Lib.hid hb1
  clear hb1
  go_wp2_with fail
  refine (good_no q entry w1 HG.out).mono ?_
  rintro en w' ⟨rfl, rfl⟩
  go_wp2_with fail
  go_ret
  exact ⟨rfl, HB.out⟩

set_option maxRecDepth 100000 in
set_option maxHeartbeats 1000000 in
theorem law7j (AL AA AB : Option Addr) (nl cl na ca nb cb q entry N : Nat) (l : List (Nat × Int)) (ahead behind : List UInt8) (w : World) (hr : Rs w w.heap.size AL nl cl l) (ha : Bs w w.heap.size AA na ca ahead) (hb : Bs w w.heap.size AB nb cb behind) (hq : q < 4294967296) (he : entry < 18446744073709551616) (hN : N < 18446744073709551616) (s1 : nl ≤ 2147483647) (s2 : na ≤ 2147483647) (s3 : nb ≤ 2147483647) (g1 : nb ≤ 16777216) (g2 : na ≤ 16777216) (hw : WellL l) (hg : (q = 1 ∨ q = 2 ∨ q = 4) ∧ entry < 1152921504606846976) (kj : nl = 0) :
    Calls Try.prog 7 #[.slice AL nl cl, .int .u32 (q : Int), .slice AA na ca, .slice AB nb cb, .int .u64 (entry : Int), .int .u64 (N : Int)] w (IsPost w (.bool true)) := by
  have d0 : ((nl : Int) == 0) = true := by simp; omega
  have HK := Lib.hid kj
  have H := Lib.hid (well_any AL nl cl l true w hr (by simp [hw]))
  have HG := Lib.hid hg
  clear hr ha hb hq he hN
  clear hw hg kj
  go_enter Try.func7, Try.ntmps7
  go_wp2_with fail
  refine H.out.mono ?_
  rintro en w1 ⟨rfl, hb1⟩
  have HB := Lib.hid hb1
  clear hb1
  go_wp2_with fail
  refine (good_yes q entry w1 HG.out.1 HG.out.2).mono ?_
  rintro en w' ⟨rfl, rfl⟩
  go_wp2_with fail
  go_ret
  exact ⟨rfl, HB.out⟩

set_option maxRecDepth 100000 in
set_option maxHeartbeats 20000000 in
theorem law7k (AL AA AB : Option Addr) (nl cl na ca nb cb q entry N : Nat) (l : List (Nat × Int)) (ahead behind : List UInt8) (w : World) (hr : Rs w w.heap.size AL nl cl l) (ha : Bs w w.heap.size AA na ca ahead) (hb : Bs w w.heap.size AB nb cb behind) (hq : q < 4294967296) (he : entry < 18446744073709551616) (hN : N < 18446744073709551616) (s1 : nl ≤ 2147483647) (s2 : na ≤ 2147483647) (s3 : nb ≤ 2147483647) (g1 : nb ≤ 16777216) (g2 : na ≤ 16777216) (hw : WellL l) (hg : (q = 1 ∨ q = 2 ∨ q = 4) ∧ entry < 1152921504606846976) (kj : nl ≠ 0) :
    Calls Try.prog 7 #[.slice AL nl cl, .int .u32 (q : Int), .slice AA na ca, .slice AB nb cb, .int .u64 (entry : Int), .int .u64 (N : Int)] w (IsPost w (.bool true)) := by
  have hf : Fine q entry l := Fine.mk_ hw hr.len kj hg
  have hroom := hf.room
  have htl := hf.tab_le
  have hq4 := hf.q4
  have hl1000 := hf.short
  have hln := hr.len
  have hcap := hr.cap
  have hbig := hr.big
  unfold maxLen at hbig
  have hnl : nl ≤ 1000 := by omega
  have d0 : ((nl : Int) == 0) = false := by simp; omega
  have hnb := hb.len
  obtain ⟨T, hT⟩ : ∃ T, tab (ents (-1) l) ++ [0] = T := ⟨_, rfl⟩
  have H := Lib.hid (well_any AL nl cl l true w hr (by simp [hw]))
  have H21 := fun W (hW : Rs W W.heap.size AL nl cl l) => Lib.hid (table_any AL nl cl l W hW hf.well hf.short)
  rw [hT] at H21 htl
  have HG := Lib.hid hg
  have HWF := Lib.hid (wellFrom_first (p' := -1) hf.well)
  have HT := Lib.hid hT
  have HLN := Lib.hid hln
  clear hw hg hf hT hq he hN kj ha hln
  go_enter Try.func7, Try.ntmps7
  go_wp2_with fail
  refine H.out.mono ?_
  rintro en w1 ⟨rfl, hb1⟩
  have HB := Lib.hid hb1
  clear hb1
  go_wp2_with fail
  refine (good_yes q entry w1 HG.out.1 HG.out.2).mono ?_
  rintro en w' ⟨rfl, rfl⟩
  go_wp2_with fail
  refine (H21 w1 ((hr.below HB.out).more HB.out.size)).out.mono ?_
  rintro en w2 ⟨A2, c2, rfl, hown2, hbel2⟩
  have HB2 := Lib.hid (HB.out.trans (hbel2.mono HB.out.size))
  have HO2 := Lib.hid (ownsRow_base hown2 HB.out.size)
  have hb2 := hb.below HB2.out
  clear hown2 hbel2
  go_wp2_with (at_builtin; refine append_bytes (w0 := w) rfl _ _ rfl rfl HO2.out HB2.out rfl hb2 ?c1 ?_)
  case c1 => omega
  intro A3 n3 c3 w3 hown3 hbel3 _
  have hn3 := own_bytes hown3
  simp only [List.length_append] at hn3
  have hst : Hid (FwRel w l behind q l.length (.slice A3 n3 c3) (.int .u64 (entry : Int)) (.int .i32 (-1)) (.int .i64 0) w3) := by
    refine Lib.hid ⟨0, A3, n3, c3, (entry : Int), -1, true, by omega, rfl, rfl, rfl, rfl, ?_, HWF.out, by simp, by omega, by omega, by omega, hbel3⟩
    have := Bs.of_own hown3
    rw [← HT.out] at this
    simpa using this
  clear hown3 hbel3 hn3 hb2
  go_wp2_with fail
  go_loopg [13, 14, 15, 63] l.length (fun k vp vpl vv vi wr => FwRel w l behind q k vp vpl vv vi wr)
  case atStart => exact hst.out
  case round =>
    obtain ⟨i, A, n, c, pc, p, first, hi, rfl, rfl, rfl, rfl, hbs, hwf, hfi, hp0, hp1, hnn, hbel⟩ := hrel
    cases gk with
    | zero =>
      have hin : ¬ i < nl := by have := HLN.out; omega
      have e0 : l.drop i = [] := List.drop_eq_nil_of_le (by omega)
      rw [e0] at hbs
      have hbs' : Bs wr wr.heap.size A n c (0 :: behind) := hbs
      have hlen := hbs'.len
      simp only [List.length_cons] at hlen
      obtain ⟨g, o, rfl, hg, -, -⟩ := hbs'.form
      have hcn := hbs'.cap
      have hcb := hbs'.big
      unfold maxLen at hcb
      have H17 := Lib.hid (next_stop (some ⟨g, o, none⟩) n c behind (q : Int) pc p wr.drew (hbs'.drew) (by omega))
      obtain ⟨n1, rfl⟩ : ∃ n1, n = n1 + 1 := ⟨n - 1, by omega⟩
      have hn1 : n1 = behind.length := by omega
      have htail : ∀ A' c', c' = c - 1 → (1 < c → A' = some ⟨g, o + 1, none⟩) → Bs wr wr.heap.size A' n1 c' behind := fun A' c' hc hA => hbs'.tail hn1 hc hA
      have HTL := Lib.hid htail
      have HBel := Lib.hid hbel
      have hnn1 : n1 ≤ 20000000 := by omega
      have HIN := Lib.hid hin
      clear hbs hbs' e0 hwf hfi hi hlen hbel hst htail hn1 hp0 hp1 s1 s2 s3 g1 g2 hroom hq4 hl1000 hcap hbig hnb htl H HG HWF H21 hr
      have hfd := field3
      by_cases hc1 : c = 1
      · subst hc1
        obtain rfl : n1 = 0 := by omega
        go_wp2_with fail
        go_region_with (go_at_call 17; refine H17.out.mono ?_; rintro en w8 ⟨A8, n8, c8, rfl, -, hbel8⟩; have q1 := conv_bytes (HTL.out (some ⟨g, o, none⟩) 0 rfl (by omega)) w8 (fun p hp => hbel8.cell hp); have q2 := conv_bytes (hb.below HBel.out) w8 (fun p hp => hbel8.cell (Nat.lt_of_lt_of_le hp HBel.out.size)); have HB8 := Lib.hid hbel8; clear hbel8)
        all_goals
          go_wp2_with fail
          go_ret
          exact ⟨rfl, (HBel.out.drew).trans (HB8.out.mono HBel.out.size)⟩
      · go_wp2_with fail
        go_region_with (go_at_call 17; refine H17.out.mono ?_; rintro en w8 ⟨A8, n8, c8, rfl, -, hbel8⟩; have q1 := conv_bytes (HTL.out (some ⟨g, o + 1, none⟩) (c - 1) rfl (fun _ => rfl)) w8 (fun p hp => hbel8.cell hp); have q2 := conv_bytes (hb.below HBel.out) w8 (fun p hp => hbel8.cell (Nat.lt_of_lt_of_le hp HBel.out.size)); have HB8 := Lib.hid hbel8; clear hbel8)
        all_goals
          go_wp2_with fail
          go_ret
          exact ⟨rfl, (HBel.out.drew).trans (HB8.out.mono HBel.out.size)⟩
    | succ k =>
      have hin : i < nl := by have := HLN.out; omega
      have hil : i < l.length := by omega
      obtain ⟨g, o, rfl, hgB, hc⟩ := hr.cells (by omega)
      have hx := (hc i hil).1
      have hv := (hc i hil).2
      rw [← hbel.cell (by exact hgB)] at hx hv
      rw [List.drop_eq_getElem_cons hil] at hbs hwf
      generalize l[i] = x at *
      obtain ⟨⟨h1, h2, h3, h4, h5⟩, hwf'⟩ := hwf
      obtain ⟨a, v⟩ := x
      simp only at *
      have hz : zig (v - p) < 4294967296 := zig_lt (by omega) (by omega)
      have hval : wrap32 (p + zag (zig (v - p))) = v := by
        rw [zag_zig, wrap32_id (by omega) (by omega)]
        omega
      have hs1 := uvarint_short hz
      have hs2 : (Lib.uvarint a).length ≤ 5 := uvarint_short (by omega)
      have hsz := mul_lt_of h2 hq4
      have hz0 : ((a * q : Nat) : Int) = (a : Int) * (q : Int) := by simp
      obtain ⟨s, hs⟩ : ∃ s, a * q = s := ⟨_, rfl⟩
      have hmul : IntKind.u64.wrap ((a : Int) * (q : Int)) = (s : Int) := by rw [IntKind.wrap_u64, ← hz0, hs]; omega
      have hfst : ((i : Int) == 0) = true ∨ zig (v - p) ≠ 0 := by
        by_cases h0 : i = 0
        · exact .inl (by simp [h0])
        · refine .inr fun e => h5 (by rw [hfi]; simpa using h0) ?_
          have := zig_zero.1 e
          omega
      have b1 := hbel.alloc hbel.size (.cells #[.int .u32 (a : Int), .int .i32 v] 41)
      have hbs1 : Bs (wr.alloc (.cells #[.int .u32 (a : Int), .int .i32 v] 41)) (wr.alloc (.cells #[.int .u32 (a : Int), .int .i32 v] 41)).heap.size A n c (Lib.uvarint (zig (v - p)) ++ (Lib.uvarint a ++ (tab (ents v (l.drop (i + 1))) ++ 0 :: behind))) := by
        have := (hbs.alloc (Nat.le_refl _) (.cells #[.int .u32 (a : Int), .int .i32 v] 41)).more (B' := (wr.alloc (.cells #[.int .u32 (a : Int), .int .i32 v] 41)).heap.size) (by simp)
        simpa [ents, tab] using this
      have H17 := Lib.hid (next_more A n c (Lib.uvarint (zig (v - p))) (Lib.uvarint a) (tab (ents v (l.drop (i + 1))) ++ 0 :: behind) (zig (v - p)) a (q : Int) (s : Int) pc p ((i : Int) == 0) _ hbs1 (by omega) (grp_uvarint _) (grp_uvarint _) (by omega) (by omega) (val_short hz) (val_short (by omega)) hfst (by rw [← hz0, hs]) (by omega) (by omega))
      rw [hval] at H17
      have hnlen := hbs1.len
      simp only [List.length_append, List.length_cons] at hnlen
      have HWF' := Lib.hid hwf'
      have HB1 := Lib.hid b1
      have HI := Lib.hid hi
      have HK := Lib.hid (Blk.new wr 41 #[.int .u32 (a : Int), .int .i32 v])
      have HNL : Hid (∀ m, m = (tab (ents v (l.drop (i + 1))) ++ 0 :: behind).length → m ≤ n) := Lib.hid fun m hm => by
        simp only [List.length_append, List.length_cons] at hm
        omega
      clear hbs hbs1 b1 hbel hc hz hval hs1 hs2 hsz hz0 hs hfst hwf' h5 hi hfi hnlen hst h1 hp0 hp1
      go_wp2_with fail
      refine H17.out.mono ?_
      rintro en w4 ⟨A4, n4, c4, rfl, hb4, hbel4⟩
      have hk4 := HK.out.below hbel4 HK.out.lt
      have r0 : ∀ ob, (w4.alloc ob).cell? ⟨wr.heap.size, 0, none⟩ = some (.int .u32 (a : Int)) := fun ob => (hk4.alloc ob).cell 0
      have r1 : ∀ ob, (w4.alloc ob).cell? ⟨wr.heap.size, 1, none⟩ = some (.int .i32 v) := fun ob => (hk4.alloc ob).cell 1
      have hn4 : n4 ≤ 20000000 := by
        have h1 := HNL.out n4 hb4.len.symm
        omega
      have HB4 := Lib.hid (HB1.out.trans (hbel4.mono HB1.out.size))
      have HBS := Lib.hid hb4
      clear hk4 hb4 hbel4
      have d5 : (v != v) = false := by simp
      have d6 : (IntKind.u64.wrap (pc + (s : Int)) != IntKind.u64.wrap (pc + (s : Int))) = false := by simp
      go_wp2_with fail
      go_quiet (fail)
      go_wp2_with fail
      go_roundg k
      case measure => omega
      case rel =>
        have hB := below_drewN (HB4.out.alloc HB4.out.size (.cells #[.slice A4 n4 c4, .int .u64 (IntKind.u64.wrap (pc + (s : Int))), .int .i32 v, .bool true] 32)) nq
        refine ⟨i + 1, A4, n4, c4, IntKind.u64.wrap (pc + (s : Int)), v, false, by have := HI.out; omega, by go_num, rfl, rfl, rfl, ?_, HWF'.out, by simp, h3, h4, hn4, hB⟩
        exact ((HBS.out.alloc (Nat.le_refl _) _).more (by simp)).keep fun _ _ => rfl

theorem law7 (AL AA AB : Option Addr) (nl cl na ca nb cb q entry N : Nat) (l : List (Nat × Int)) (ahead behind : List UInt8) (w : World) (hr : Rs w w.heap.size AL nl cl l) (ha : Bs w w.heap.size AA na ca ahead) (hb : Bs w w.heap.size AB nb cb behind) (hq : q < 4294967296) (he : entry < 18446744073709551616) (hN : N < 18446744073709551616) :
    Calls Try.prog 7 #[.slice AL nl cl, .int .u32 (q : Int), .slice AA na ca, .slice AB nb cb, .int .u64 (entry : Int), .int .u64 (N : Int)] w (IsPost w (.bool true)) := by
  by_cases s1 : nl ≤ 2147483647
  case neg => exact law7a AL AA AB nl cl na ca nb cb q entry N l ahead behind w hr ha hb hq he hN s1
  by_cases s2 : na ≤ 2147483647
  case neg => exact law7b AL AA AB nl cl na ca nb cb q entry N l ahead behind w hr ha hb hq he hN s1 s2
  by_cases s3 : nb ≤ 2147483647
  case neg => exact law7c AL AA AB nl cl na ca nb cb q entry N l ahead behind w hr ha hb hq he hN s1 s2 s3
  by_cases g1 : nb ≤ 16777216
  case neg => exact law7d AL AA AB nl cl na ca nb cb q entry N l ahead behind w hr ha hb hq he hN s1 s2 s3 g1
  by_cases g2 : na ≤ 16777216
  case neg => exact law7e AL AA AB nl cl na ca nb cb q entry N l ahead behind w hr ha hb hq he hN s1 s2 s3 g1 g2
  by_cases hw : WellL l
  case neg => exact law7f AL AA AB nl cl na ca nb cb q entry N l ahead behind w hr ha hb hq he hN s1 s2 s3 g1 g2 hw
  by_cases hg : (q = 1 ∨ q = 2 ∨ q = 4) ∧ entry < 1152921504606846976
  case neg => exact law7g AL AA AB nl cl na ca nb cb q entry N l ahead behind w hr ha hb hq he hN s1 s2 s3 g1 g2 hw hg
  by_cases kj : nl ≠ 0
  case neg => exact law7j AL AA AB nl cl na ca nb cb q entry N l ahead behind w hr ha hb hq he hN s1 s2 s3 g1 g2 hw hg (by omega)
  exact law7k AL AA AB nl cl na ca nb cb q entry N l ahead behind w hr ha hb hq he hN s1 s2 s3 g1 g2 hw hg kj

end Go.Proofs.Ytfbnnbbjfjhkjaa
