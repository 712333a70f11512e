/- The walk of funcpctab. -/
import Derived.Test.YtfbnnbbjfjhkjaaFp
namespace Go.Proofs.Ytfbnnbbjfjhkjaa
open Go.RowKit
set_option linter.unusedVariables false

/-- What funcpctab leaves: a symbol that bears the table. -/
def FpPost (w : World) (T : List UInt8) (en : Ending) (w' : World) : Prop :=
  ∃ g A n c s, en = .returned (.pointer (some ⟨g, 0, none⟩)) ∧ Blk w' g 83 #[s, .slice A n c, .pointer none] ∧ Bs w' w'.heap.size A n c T ∧ Below w.heap.size w w'

theorem make5 (w : World) : (Instr.makeSlice 23 (.int .i64 5) (.int .i64 5)).run Try.prog w = .ok (.slice (some ⟨w.heap.size, 0, none⟩) 5 5) (w.alloc (.cells #[.int .u8 0, .int .u8 0, .int .u8 0, .int .u8 0, .int .u8 0] 5)) := by kernel_rfl

set_option maxRecDepth 100000 in
set_option maxHeartbeats 4000000 in
theorem funcpctab_any (gk ga gf gn g6 g7 : Nat) (bs : List Nat) (pcs bef beh : List Int) (size q : Int) (A2 A3 : Option Addr) (n2 c2 n3 c3 : Nat) (w : World)
    (hk : Blk w gk 89 #[.pointer (some ⟨ga, 0, none⟩)]) (ha : Blk w ga 87 #[.int .i64 q]) (hf : Blk w gf 83 #[.int .i64 size, .slice none 0 0, .pointer (some ⟨gn, 0, none⟩)]) (hn : Blk w gn 76 #[.pointer (linkAt bs 0)])
    (h6 : Blk w g6 47 #[.slice A2 n2 c2]) (h7 : Blk w g7 47 #[.slice A3 n3 c3]) (hbef : Is w w.heap.size A2 n2 c2 .i32 bef) (hbeh : Is w w.heap.size A3 n3 c3 .i32 beh) (hch : Chain w w.heap.size bs pcs)
    (hl2 : bef.length = pcs.length) (hl3 : beh.length = pcs.length) (hpos : 0 < pcs.length) (hord : InOrder size q 0 (pcs.zip bef)) (hp0 : pcs[0] = 0) (hq1 : 1 ≤ q) (hq4 : q ≤ 4) (hsz : size ≤ 1073741824) (hlen : pcs.length ≤ 2147483647) :
    Calls Try.prog 39 #[.pointer (some ⟨gk, 0, none⟩), .pointer (some ⟨gf, 0, none⟩), .func (.func 38) #[] #[.pointer (some ⟨g6, 0, none⟩), .pointer (some ⟨g7, 0, none⟩)], .nilIface] w
      (FpPost w (tab (pairs size q 0 (pcs.zip bef)) ++ [0])) := by
  obtain ⟨b0, hb0⟩ : ∃ b, bs[0]? = some b := ⟨bs[0]'(by have := hch.1; omega), List.getElem?_eq_getElem _⟩
  have hl0 : linkAt bs 0 = some ⟨b0, 0, none⟩ := by unfold linkAt; rw [hb0]; rfl
  have hbs0 := hch.1
  have hb0' : bs[0]'(by omega) = b0 := by
    rw [List.getElem?_eq_getElem (by omega)] at hb0
    injection hb0
  have hc0 := (hch.2 0 (by omega) (by omega)).2
  rw [hb0', hp0] at hc0
  rw [hl0] at hn
  have b1 := (Below.refl w.heap.size w).alloc (Nat.le_refl _) (.cells #[] 5)
  have b2 := b1.alloc b1.size (.cells #[.int .i64 0, .slice none 0 0, .pointer none] 83)
  have hn0 : ∀ o1 o2, ((w.alloc o1).alloc o2).cell? ⟨gn, 0, none⟩ = some (.pointer (some ⟨b0, 0, none⟩)) := fun o1 o2 => ((hn.alloc o1).alloc o2).cell 0
  have hn3 : ∀ o1 o2 o3, (((w.alloc o1).alloc o2).alloc o3).cell? ⟨gn, 0, none⟩ = some (.pointer (some ⟨b0, 0, none⟩)) := fun o1 o2 o3 => (((hn.alloc o1).alloc o2).alloc o3).cell 0
  have hp3 : ∀ o1 o2, ((w.alloc o1).alloc o2).cell? ⟨b0, 0, none⟩ = some (.int .i64 0) := fun o1 o2 => ((hc0.alloc o1).alloc o2).cell 0
  have H43 := fun o1 o2 => Lib.hid (func_any gf (.int .i64 size) (.slice none 0 0) (some ⟨gn, 0, none⟩) ((w.alloc o1).alloc o2) ((hf.alloc o1).alloc o2))
  have hmk := make5
  have b3 := b2.alloc b2.size (.cells #[.int .u8 0, .int .u8 0, .int .u8 0, .int .u8 0, .int .u8 0] 5)
  obtain ⟨ins, hins⟩ : ∃ ins, pcs.zip bef = ins := ⟨_, rfl⟩
  have hil : ins.length = pcs.length := by rw [← hins, List.length_zip]; omega
  have hsz0 : 0 < size := by
    cases pcs with
    | nil => simp at hpos
    | cons a r =>
      cases bef with
      | nil => simp at hl2
      | cons c s =>
        have h1 := hord.1
        have h2 := hord.2.1
        simp only at h1 h2
        omega
  rw [hins] at hord
  have hst : Hid (FpRel w bs ins size q 0 ins.length (.slice (some ⟨w.heap.size, 0, none⟩) 0 0) (.int .i32 (-1)) (.int .i32 (-1)) (.int .i64 0) (.bool false) (.pointer (some ⟨b0, 0, none⟩))
      (((w.alloc (.cells #[] 5)).alloc (.cells #[.int .i64 0, .slice none 0 0, .pointer none] 83)).alloc (.cells #[.int .u8 0, .int .u8 0, .int .u8 0, .int .u8 0, .int .u8 0] 5))) := by
    have z1 : (w.alloc (.cells #[] 5)).heap.size = w.heap.size + 1 := by simp
    have z2 : ((w.alloc (.cells #[] 5)).alloc (.cells #[.int .i64 0, .slice none 0 0, .pointer none] 83)).heap.size = w.heap.size + 1 + 1 := by simp
    have k1 := (Blk.new (w.alloc (.cells #[] 5)) 83 #[.int .i64 0, .slice none 0 0, .pointer none]).alloc (.cells #[.int .u8 0, .int .u8 0, .int .u8 0, .int .u8 0, .int .u8 0] 5)
    have k2 := Blk.new ((w.alloc (.cells #[] 5)).alloc (.cells #[.int .i64 0, .slice none 0 0, .pointer none] 83)) 5 #[.int .u8 0, .int .u8 0, .int .u8 0, .int .u8 0, .int .u8 0]
    rw [z1] at k1
    rw [z2] at k2
    refine Lib.hid ⟨0, _, 0, 0, -1, -1, 0, 0, false, [], by omega, rfl, rfl, rfl, rfl, rfl, by rw [hl0], ?_, by simp [Value.ownBlock]; omega, by omega, ⟨fun _ => ⟨rfl, rfl, rfl, rfl⟩, fun h => by cases h⟩, hord, by omega, by omega, hsz0, by omega, by omega, fun _ => by omega, k1, ⟨_, rfl, k2⟩, b3⟩
    exact ((own_empty w 5 w.heap.size (Nat.le_refl _)).alloc _).alloc _
  clear b1 b2 b3 hc0 hb0' hl0 hb0
  go_enter Try.func39, Try.ntmps39
  go_wp2_with fail
  refine (H43 _ _).out.mono ?_
  rintro en w' ⟨rfl, rfl⟩
  go_wp2_with fail
  rw [hins]
  clear H43 hn0 hn3 hp3 hmk hord
  go_loopg [9, 11, 12, 14, 16, 17] ins.length (fun k vd vv vo vpc vs vp wr => FpRel w bs ins size q 0 k vd vv vo vpc vs vp wr)
  case atStart => exact hst.out
  case round =>
    obtain ⟨i, A, n, c, vl, old, pc, lo, started, D, hi, rfl, rfl, rfl, rfl, rfl, rfl, hown, hfar, hn', heq, hord, hpc0, hpclo, hpcsz, ho0, ho1, hstk, hsym, hbuf, hbel⟩ := hrel
    cases gk with
    | zero =>
      cases started with
      | false => exact absurd (hstk rfl) (by omega)
      | true =>
      have hdrop : ins.drop i = [] := List.drop_eq_nil_of_le (by omega)
      rw [hdrop] at heq
      have hlk : linkAt bs i = none := by unfold linkAt; rw [List.getElem?_eq_none (by omega)]; rfl
      rw [hlk]
      have hck : ∀ W, Below w.heap.size w W → W.cell? ⟨gk, 0, none⟩ = some (.pointer (some ⟨ga, 0, none⟩)) := fun W hW => (hk.below hW hk.lt).cell 0
      have hca : ∀ W, Below w.heap.size w W → W.cell? ⟨ga, 0, none⟩ = some (.int .i64 q) := fun W hW => (ha.below hW ha.lt).cell 0
      have hcf : ∀ W, Below w.heap.size w W → W.cell? ⟨gf, 0, none⟩ = some (.int .i64 size) := fun W hW => (hf.below hW hf.lt).cell 0
      replace hck := hck wr hbel
      replace hca := hca wr hbel
      replace hcf := hcf wr hbel
      have HST : Hid (FpSt w A n c D wr) := Lib.hid ⟨hown, hfar, hsym, hbuf, hbel⟩
      have hn9 : n + 5 ≤ 140737488355328 := by omega
      have hn10 : n + 5 + 5 ≤ 140737488355328 := by omega
      have hq0 : q ≠ 0 := by omega
      have hm0 : 0 ≤ (size - pc) / q := Int.ediv_nonneg (by omega) (by omega)
      have hm1 : (size - pc) / q < 1073741825 := Int.lt_of_le_of_lt (Int.ediv_le_self q (by omega)) (by omega)
      have hmz := uvarint_short (n := ((size - pc) / q).toNat) (by omega)
      have HPN : Hid (∀ W, FpSt w A n c D W → Calls Try.prog 44 #[.slice (some ⟨w.heap.size + 1 + 1, 0, none⟩) 5 5, .int .u64 ((size - pc) / q)] W fun e w' => e = .returned (.int .i64 (Lib.uvarint ((size - pc) / q).toNat).length) ∧ w' = W.setCells (w.heap.size + 1 + 1) 0 (Lib.byteCells (Lib.uvarint ((size - pc) / q).toNat))) := Lib.hid fun W hW => by
        have := put_num hW ((size - pc) / q).toNat (by omega)
        rw [Int.toNat_of_nonneg hm0] at this
        exact this
      have HT := Lib.hid heq.end_
      clear heq hdrop hlk hord hown hfar hsym hbuf hbel hst hk ha hf hn h6 h7 hbef hbeh hch hp0 hpos hl2 hl3 hbs0 hil hstk ho0 ho1
      generalize Lib.uvarint ((size - pc) / q).toNat = e0 at *
      go_wp2_with fail
      go_quiet (fail)
      go_wp2_with fail
      refine (HPN.out _ (HST.out.drewN _)).mono ?_
      rintro en w2 ⟨rfl, rfl⟩
      go_wp2_with (at_builtin; refine append_buf (w := w) rfl (.tmp 170) (.tmp 173) rfl (Lib.hid (HST.out.drewN _)) rfl rfl hmz hn9 ?_)
      intro A' n' c' w3 hst3 hn3
      have HST3 := Lib.hid hst3
      have hn4 : n' + 5 ≤ 140737488355328 := by omega
      clear hst3 hck hca hcf hn3
      go_wp2_with (at_builtin; refine append_zero (w := w) rfl (.tmp 175) (.tmp 176) rfl HST3 rfl rfl hn4 ?_)
      intro A5 n5 c5 w5 hst5
      have hs0 : w5.cell? ⟨w.heap.size + 1, 0, none⟩ = some (.int .i64 0) := hst5.2.2.1.cell 0
      have hf0 : w5.frozen? ⟨w.heap.size + 1, 0, none⟩ = false := hst5.2.2.1.free 0
      have hs1 : ∀ u, (w5.setCell ⟨w.heap.size + 1, 0, none⟩ u).cell? ⟨w.heap.size + 1, 1, none⟩ = some (.slice none 0 0) := fun u => (hst5.2.2.1.set_ 0 u).cell 1
      have hf1 : ∀ u, (w5.setCell ⟨w.heap.size + 1, 0, none⟩ u).frozen? ⟨w.heap.size + 1, 1, none⟩ = false := fun u => (hst5.2.2.1.set_ 0 u).free 1
      have HD := Lib.hid fun u => fp_done hst5 u
      clear hst5
      go_wp2_with fail
      go_ret
      obtain ⟨g1, g2, g3⟩ := HD.out (.int .i64 (n5 : Int))
      exact ⟨_, _, _, _, _, rfl, g1, by simp only [hins, HT.out]; simpa using g2, g3⟩
    | succ k =>
      have hil' : i < ins.length := by omega
      have hip : i < pcs.length := by omega
      have hib : i < bs.length := by omega
      have hi2 : i < bef.length := by omega
      have hi3 : i < beh.length := by omega
      have hx : ins[i] = (pcs[i], bef[i]) := by simp only [← hins, List.getElem_zip]
      rw [List.drop_eq_getElem_cons hil', hx] at heq hord
      obtain ⟨hblt, hblk⟩ := hch.2 i hib hip
      have hlk : linkAt bs i = some ⟨bs[i], 0, none⟩ := by unfold linkAt; rw [List.getElem?_eq_getElem hib]; rfl
      rw [hlk]
      obtain ⟨x, hxv⟩ : ∃ x, pcs[i] = x := ⟨_, rfl⟩
      obtain ⟨b, hbv⟩ : ∃ b, bef[i] = b := ⟨_, rfl⟩
      obtain ⟨bh, hbh⟩ : ∃ b, beh[i] = b := ⟨_, rfl⟩
      generalize hgb : bs[i] = gb at *
      rw [hxv] at hblk heq hord
      rw [hbv] at heq hord
      have HV0 : ∀ W v, Below w.heap.size w W → Hid (Calls Try.prog 38 #[.pointer (some ⟨gk, 0, none⟩), .pointer (some ⟨gf, 0, none⟩), .int .i32 v, .pointer (some ⟨gb, 0, none⟩), .int .i32 0, .nilIface, .pointer (some ⟨g6, 0, none⟩), .pointer (some ⟨g7, 0, none⟩)] W (QuietPost W (.int .i32 b))) := fun W v hW =>
        Lib.hid (value_fn _ _ _ v 0 x gb g6 g7 i w.heap.size n2 c2 A2 _ bef b W (hblk.below hW hblt) (fun _ => h6.below hW h6.lt) (fun h => absurd h (by decide)) (hbef.below hW) hi2 hbv (.inl rfl))
      have HV1 : ∀ W v, Below w.heap.size w W → Hid (Calls Try.prog 38 #[.pointer (some ⟨gk, 0, none⟩), .pointer (some ⟨gf, 0, none⟩), .int .i32 v, .pointer (some ⟨gb, 0, none⟩), .int .i32 1, .nilIface, .pointer (some ⟨g6, 0, none⟩), .pointer (some ⟨g7, 0, none⟩)] W (QuietPost W (.int .i32 bh))) := fun W v hW =>
        Lib.hid (value_fn _ _ _ v 1 x gb g6 g7 i w.heap.size n3 c3 A3 _ beh bh W (hblk.below hW hblt) (fun h => absurd h (by decide)) (fun _ => h7.below hW h7.lt) (hbeh.below hW) hi3 hbh (.inr rfl))
      have hblkW := hblk.below hbel hblt
      have hc0 : wr.cell? ⟨gb, 0, none⟩ = some (.int .i64 x) := hblkW.cell 0
      have hc1 : wr.cell? ⟨gb, 1, none⟩ = some (.pointer (linkAt bs (i + 1))) := hblkW.cell 1
      have hck : wr.cell? ⟨gk, 0, none⟩ = some (.pointer (some ⟨ga, 0, none⟩)) := (hk.below hbel hk.lt).cell 0
      have hca : wr.cell? ⟨ga, 0, none⟩ = some (.int .i64 q) := (ha.below hbel ha.lt).cell 0
      have HC1 : ∀ W, Below w.heap.size w W → W.cell? ⟨gb, 1, none⟩ = some (.pointer (linkAt bs (i + 1))) := fun W hW => (hblk.below hW hblt).cell 1
      have hnext : (linkAt bs (i + 1) = none ∧ ins.drop (i + 1) = []) ∨ (∃ g2 x2 b2 r, linkAt bs (i + 1) = some ⟨g2, 0, none⟩ ∧ ins.drop (i + 1) = (x2, b2) :: r ∧ wr.cell? ⟨g2, 0, none⟩ = some (.int .i64 x2)) := by
        by_cases hlast : i + 1 < ins.length
        · right
          have e1 : ins[i + 1] = (pcs[i + 1], bef[i + 1]) := by simp only [← hins, List.getElem_zip]
          obtain ⟨q1, q2⟩ := hch.2 (i + 1) (by omega) (by omega)
          refine ⟨bs[i + 1], pcs[i + 1], bef[i + 1], ins.drop (i + 1 + 1), ?_, ?_, (q2.below hbel q1).cell 0⟩
          · unfold linkAt
            rw [List.getElem?_eq_getElem (by omega)]
            rfl
          · rw [List.drop_eq_getElem_cons hlast, e1]
        · left
          refine ⟨?_, List.drop_eq_nil_of_le (by omega)⟩
          unfold linkAt
          rw [List.getElem?_eq_none (by omega)]
          rfl
      have HBEL := Lib.hid hbel
      have HEQ := Lib.hid heq
      have HORD := Lib.hid hord
      have HI := Lib.hid hi
      have HOWN := Lib.hid hown
      have HSYM := Lib.hid hsym
      have HBUF := Lib.hid hbuf
      have HHC1 := Lib.hid HC1
      have HCX : Hid (∀ W, Below w.heap.size w W → W.cell? ⟨gb, 0, none⟩ = some (.int .i64 x)) := Lib.hid fun W hW => (hblk.below hW hblt).cell 0
      have hb0 : -2147483648 ≤ b ∧ b ≤ 2147483647 := ⟨hord.2.2.2.1, hord.2.2.2.2.1⟩
      obtain ⟨hbb0, hbb1⟩ := hb0
      have hlox : lo ≤ x := hord.1
      have hxsz : x < size := hord.2.1
      have hord' : InOrder size q x (ins.drop (i + 1)) := hord.2.2.2.2.2
      have HORD' := Lib.hid hord'
      have hi9 : i < 2147483647 := by omega
      clear hbel heq hord hord' hi hown hsym hbuf hx hxv hbv hbh hgb hlk hil hst hblk hblkW HC1 hk ha hf hn h6 h7 hbef hbeh hch hp0 hpos hl2 hl3 hbs0 hip hib hi2 hi3 hil'
      generalize hlkk : linkAt bs (i + 1) = lk at *
      have HLKK := Lib.hid hlkk
      clear hlkk
      by_cases c1 : b = old ∧ started = true
      · obtain ⟨rfl, rfl⟩ := c1
        have HR : Hid (∀ W vl, wr.heap = W.heap → Below w.heap.size w W → FpRel w bs ins size q 0 k (.slice A n c) (.int .i32 vl) (.int .i32 b) (.int .i64 pc) (.bool true) (.pointer lk) W) := Lib.hid fun W vl hh hW =>
          ⟨i + 1, A, n, c, vl, b, pc, x, true, D, by have := HI.out; omega, rfl, rfl, rfl, rfl, rfl, by rw [HLKK.out], own_heap HOWN.out hh, hfar, by omega, HEQ.out.keep (.inl rfl), HORD'.out, hpc0, by omega, hpcsz, ho0, ho1, (fun h => by cases h), HSYM.out.heap hh, HBUF.out.heap hh, hW⟩
        clear hnext hck hca hc0
        go_wp2_with fail
        refine (HV0 _ _ HBEL.out).out.mono ?_
        rintro en w1 ⟨m1, rfl, rfl⟩
        have HB1 := Lib.hid (below_drewN HBEL.out m1)
        go_wp2_with fail
        refine (HV1 _ _ HB1.out).out.mono ?_
        rintro en w2 ⟨m2, rfl, rfl⟩
        go_wp2_with fail
        go_roundg k
        case measure => omega
        case rel => exact HR.out _ _ rfl (below_drewN HBEL.out _)
      · have hd0 : started = true → (b == old) = false := fun h => by
          have : b ≠ old := fun e => c1 ⟨e, h⟩
          simpa using this
        have hemit : ((∃ g2, lk = some ⟨g2, 0, none⟩ ∧ wr.cell? ⟨g2, 0, none⟩ = some (.int .i64 x)) ∧ sameNext (x, b) (ins.drop (i + 1)) = true) ∨
            ((lk = none ∨ ∃ g2 x2, lk = some ⟨g2, 0, none⟩ ∧ wr.cell? ⟨g2, 0, none⟩ = some (.int .i64 x2) ∧ (x2 == x) = false) ∧ ¬ sameNext (x, b) (ins.drop (i + 1)) = true) := by
          rcases hnext with ⟨e1, e2⟩ | ⟨g2, x2, b2, r, e1, e2, e3⟩
          · exact .inr ⟨.inl e1, by rw [e2]; simp [sameNext]⟩
          · by_cases hx2 : x2 = x
            · subst hx2
              exact .inl ⟨⟨g2, e1, e3⟩, by rw [e2]; simp [sameNext]⟩
            · exact .inr ⟨.inr ⟨g2, x2, e1, e3, by simpa using hx2⟩, by rw [e2]; simpa [sameNext] using hx2⟩
        clear hnext c1
        rcases hemit with ⟨⟨g2, rfl, hc2⟩, hsame⟩ | ⟨hlk, hsame⟩
        · have hxx : (x == x) = true := by simp
          have HR : Hid (∀ W vl, wr.heap = W.heap → Below w.heap.size w W → FpRel w bs ins size q 0 k (.slice A n c) (.int .i32 vl) (.int .i32 old) (.int .i64 pc) (.bool started) (.pointer (some ⟨g2, 0, none⟩)) W) := Lib.hid fun W vl hh hW => by
            have hfe : FpEq size q 0 (pairs size q 0 ins) started old pc D (ins.drop (i + 1)) := by
              cases started
              · exact HEQ.out.wait hsame
              · exact HEQ.out.keep (.inr hsame)
            have hk0 : started = false → 0 < k := fun _ => by
              rcases Nat.eq_zero_or_pos k with h0 | h0
              · have : ins.drop (i + 1) = [] := List.drop_eq_nil_of_le (by have := HI.out; omega)
                rw [this] at hsame
                simp [sameNext] at hsame
              · exact h0
            exact ⟨i + 1, A, n, c, vl, old, pc, x, started, D, by have := HI.out; omega, rfl, rfl, rfl, rfl, rfl, by rw [HLKK.out], own_heap HOWN.out hh, hfar, by omega, hfe, HORD'.out, hpc0, by omega, hpcsz, ho0, ho1, hk0, HSYM.out.heap hh, HBUF.out.heap hh, hW⟩
          clear hck hca hstk HEQ HORD
          by_cases hs : started = true
          · have hbo := hd0 hs
            subst hs
            clear hd0
            go_wp2_with fail
            refine (HV0 _ _ HBEL.out).out.mono ?_
            rintro en w1 ⟨m1, rfl, rfl⟩
            go_wp2_with fail
            go_quiet (fail)
            go_wp2_with fail
            refine (HV1 _ _ (below_drewN HBEL.out _)).out.mono ?_
            rintro en w2 ⟨m2, rfl, rfl⟩
            go_wp2_with fail
            go_roundg k
            case measure => omega
            case rel => exact HR.out _ _ rfl (below_drewN HBEL.out _)
          · obtain rfl : started = false := by simpa using hs
            clear hd0
            by_cases hbo : (b == old) = true
            all_goals
              go_wp2_with fail
              refine (HV0 _ _ HBEL.out).out.mono ?_
              rintro en w1 ⟨m1, rfl, rfl⟩
              go_wp2_with fail
              go_quiet (fail)
              go_wp2_with fail
              refine (HV1 _ _ (below_drewN HBEL.out _)).out.mono ?_
              rintro en w2 ⟨m2, rfl, rfl⟩
              go_wp2_with fail
              go_roundg k
              case measure => omega
              case rel => exact HR.out _ _ rfl (below_drewN HBEL.out _)
        · have HST : Hid (FpSt w A n c D wr) := Lib.hid ⟨HOWN.out, hfar, HSYM.out, HBUF.out, HBEL.out⟩
          clear HOWN HSYM HBUF hfar
          have hn9 : n + 5 ≤ 140737488355328 := by omega
          have hn10 : n + 5 + 5 ≤ 140737488355328 := by omega
          by_cases hs : started = true
          · have hbo := hd0 hs
            subst hs
            have hne : b ≠ old := by simpa using hbo
            clear hd0 hstk
            have hdl := wrap32_range (b - old)
            have hz := uvarint_short (zig_lt hdl.1 hdl.2)
            have hq0 : q ≠ 0 := by omega
            have hm0 : 0 ≤ (x - pc) / q := Int.ediv_nonneg (by omega) (by omega)
            have hm1 : (x - pc) / q < 1073741824 := Int.lt_of_le_of_lt (Int.ediv_le_self q (by omega)) (by omega)
            have hmz := uvarint_short (n := ((x - pc) / q).toNat) (by omega)
            have HR : Hid (∀ A' n' c' W, FpSt w A' n' c' (D ++ (Lib.uvarint ((x - pc) / q).toNat ++ Lib.uvarint (zig (wrap32 (b - old))))) W → n' = n + (Lib.uvarint ((x - pc) / q).toNat).length + (Lib.uvarint (zig (wrap32 (b - old)))).length → FpRel w bs ins size q 0 k (.slice A' n' c') (.int .i32 bh) (.int .i32 b) (.int .i64 x) (.bool true) (.pointer lk) W) := Lib.hid fun A' n' c' W hW hn' =>
              ⟨i + 1, A', n', c', bh, b, x, x, true, _, by have := HI.out; omega, rfl, rfl, rfl, rfl, rfl, by rw [HLKK.out], hW.1, hW.2.1, by omega, (by have := HEQ.out.turn (fun h => h.elim hne hsame); rw [List.append_assoc] at this; exact this), HORD'.out, by omega, by omega, hxsz, hbb0, hbb1, (fun h => by cases h), hW.2.2.1, hW.2.2.2.1, hW.2.2.2.2⟩
            have HPN : Hid (∀ W, FpSt w A n c D W → Calls Try.prog 44 #[.slice (some ⟨w.heap.size + 1 + 1, 0, none⟩) 5 5, .int .u64 ((x - pc) / q)] W fun e w' => e = .returned (.int .i64 (Lib.uvarint ((x - pc) / q).toNat).length) ∧ w' = W.setCells (w.heap.size + 1 + 1) 0 (Lib.byteCells (Lib.uvarint ((x - pc) / q).toNat))) := Lib.hid fun W hW => by
              have := put_num hW ((x - pc) / q).toNat (by omega)
              rw [Int.toNat_of_nonneg hm0] at this
              exact this
            have HPV : Hid (∀ A' n' c' D' W, FpSt w A' n' c' D' W → Calls Try.prog 45 #[.slice (some ⟨w.heap.size + 1 + 1, 0, none⟩) 5 5, .int .i64 (wrap32 (b - old))] W fun e w' => e = .returned (.int .i64 (Lib.uvarint (zig (wrap32 (b - old)))).length) ∧ w' = W.setCells (w.heap.size + 1 + 1) 0 (Lib.byteCells (Lib.uvarint (zig (wrap32 (b - old)))))) := Lib.hid fun A' n' c' D' W hW => put_diff hW _ hdl.1 hdl.2
            have HC0 : Hid (∀ W, Below w.heap.size w W → W.cell? ⟨gb, 0, none⟩ = some (.int .i64 x)) := HCX
            clear HEQ HORD hsame ho0 ho1 HI hne
            obtain ⟨hdl1, hdl2⟩ := hdl
            generalize Lib.uvarint (zig (wrap32 (b - old))) = e1 at *
            generalize Lib.uvarint ((x - pc) / q).toNat = e0 at *
            rcases hlk with rfl | ⟨g2, x2, rfl, hc2, hx2⟩
            all_goals
              go_wp2_with fail
              refine (HV0 _ _ HBEL.out).out.mono ?_
              rintro en w1 ⟨m1, rfl, rfl⟩
              go_wp2_with fail
              go_quiet (fail)
              go_wp2_with fail
              go_quiet (fail)
              go_wp2_with fail
              refine (HPN.out _ (HST.out.drewN _)).mono ?_
              rintro en w2 ⟨rfl, rfl⟩
              go_wp2_with (at_builtin; refine append_buf (w := w) rfl (.tmp 119) (.tmp 122) rfl (Lib.hid (HST.out.drewN _)) rfl rfl hmz hn9 ?_)
              intro A' n' c' w3 hst3 hn3
              have HST3 := Lib.hid hst3
              have hcx3 := HC0.out w3 hst3.2.2.2.2
              have hn4 : n' + 5 ≤ 140737488355328 := by omega
              have HN3 := Lib.hid hn3
              clear hst3 hc0 hc1 hck hca hn3
              go_wp2_with fail
              refine (HPV.out _ _ _ _ _ HST3.out).mono ?_
              rintro en w5 ⟨rfl, rfl⟩
              go_wp2_with (at_builtin; refine append_buf (w := w) rfl (.tmp 135) (.tmp 138) rfl HST3 rfl rfl hz hn4 ?_)
              clear hcx3
              intro A2' n2' c2' w6 hst6 hn6
              have hcl := HHC1.out w6 hst6.2.2.2.2
              have HB6 := Lib.hid hst6.2.2.2.2
              have HR3 : Hid (∀ W, w6.heap = W.heap → Below w.heap.size w W → _) := Lib.hid fun W hh hb => HR.out A2' n2' c2' W ⟨own_heap hst6.1 hh, hst6.2.1, hst6.2.2.1.heap hh, hst6.2.2.2.1.heap hh, hb⟩ (by have := HN3.out; omega)
              clear hst6 hn6
              go_wp2_with fail
              refine (HV1 _ _ HB6.out).out.mono ?_
              rintro en w7 ⟨m7, rfl, rfl⟩
              go_wp2_with fail
              go_roundg k
              case measure => omega
              case rel => exact HR3.out _ rfl (below_drewN HB6.out _)
          · obtain rfl : started = false := by simpa using hs
            clear hd0 hs
            have hdl := wrap32_range (b - old)
            have hz := uvarint_short (zig_lt hdl.1 hdl.2)
            have HR : Hid (∀ A' n' c' W, FpSt w A' n' c' (D ++ Lib.uvarint (zig (wrap32 (b - old)))) W → n' = n + (Lib.uvarint (zig (wrap32 (b - old)))).length → FpRel w bs ins size q 0 k (.slice A' n' c') (.int .i32 bh) (.int .i32 b) (.int .i64 pc) (.bool true) (.pointer lk) W) := Lib.hid fun A' n' c' W hW hn' =>
              ⟨i + 1, A', n', c', bh, b, pc, x, true, _, by have := HI.out; omega, rfl, rfl, rfl, rfl, rfl, by rw [HLKK.out], hW.1, hW.2.1, by omega, HEQ.out.begin_ hsame, HORD'.out, hpc0, by omega, hpcsz, hbb0, hbb1, (fun h => by cases h), hW.2.2.1, hW.2.2.2.1, hW.2.2.2.2⟩
            have HPV : Hid (∀ W, FpSt w A n c D W → Calls Try.prog 45 #[.slice (some ⟨w.heap.size + 1 + 1, 0, none⟩) 5 5, .int .i64 (wrap32 (b - old))] W fun e w' => e = .returned (.int .i64 (Lib.uvarint (zig (wrap32 (b - old)))).length) ∧ w' = W.setCells (w.heap.size + 1 + 1) 0 (Lib.byteCells (Lib.uvarint (zig (wrap32 (b - old)))))) := Lib.hid fun W hW => put_diff hW _ hdl.1 hdl.2
            clear hstk HEQ HORD hsame hpc0 hpclo hpcsz ho0 ho1 HI
            obtain ⟨hdl1, hdl2⟩ := hdl
            generalize Lib.uvarint (zig (wrap32 (b - old))) = e1 at *
            have hck0 := HHC1
            by_cases hbo : (b == old) = true
            all_goals
              rcases hlk with rfl | ⟨g2, x2, rfl, hc2, hx2⟩
              all_goals
                go_wp2_with fail
                refine (HV0 _ _ HBEL.out).out.mono ?_
                rintro en w1 ⟨m1, rfl, rfl⟩
                go_wp2_with fail
                go_quiet (fail)
                go_wp2_with fail
                refine (HPV.out _ (HST.out.drewN _)).mono ?_
                rintro en w2 ⟨rfl, rfl⟩
                go_wp2_with (at_builtin; refine append_buf (w := w) rfl (.tmp 135) (.tmp 138) rfl (Lib.hid (HST.out.drewN _)) rfl rfl hz hn9 ?_)
                intro A' n' c' w3 hst3 hn3
                have HST3 := Lib.hid hst3
                have hcl := HHC1.out w3 hst3.2.2.2.2
                have HB3 := Lib.hid hst3.2.2.2.2
                have HR3 : Hid (∀ W, w3.heap = W.heap → Below w.heap.size w W → _) := Lib.hid fun W hh hb => HR.out A' n' c' W ⟨own_heap hst3.1 hh, hst3.2.1, hst3.2.2.1.heap hh, hst3.2.2.2.1.heap hh, hb⟩ hn3
                clear hst3 hn3 hc0 hc1 hck hca
                go_wp2_with fail
                refine (HV1 _ _ HB3.out).out.mono ?_
                rintro en w4 ⟨m4, rfl, rfl⟩
                go_wp2_with fail
                go_roundg k
                case measure => omega
                case rel => exact HR3.out _ rfl (below_drewN HB3.out _)
end Go.Proofs.Ytfbnnbbjfjhkjaa
