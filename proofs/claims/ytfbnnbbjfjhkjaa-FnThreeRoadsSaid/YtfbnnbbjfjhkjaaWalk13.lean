/- The walk of the law FnThreeRoads. -/
import Derived.Test.YtfbnnbbjfjhkjaaCat
import Derived.Test.YtfbnnbbjfjhkjaaRdd
import Derived.Test.YtfbnnbbjfjhkjaaThree
import Derived.Test.YtfbnnbbjfjhkjaaFits
namespace Go.Proofs.Ytfbnnbbjfjhkjaa
open Go.RowKit
set_option linter.unusedVariables false

theorem flat_get : ∀ (all : List (Int × Nat × Nat)) (i : Nat) (hi : i < all.length), (flat all)[i * 3]? = some (.int .i32 all[i].1) ∧ (flat all)[i * 3 + 1]? = some (.int .u32 (all[i].2.1 : Int)) ∧ (flat all)[i * 3 + 2]? = some (.int .u32 (all[i].2.2 : Int))
  | [], i, hi => by simp at hi
  | d :: r, 0, hi => ⟨rfl, rfl, rfl⟩
  | d :: r, i + 1, hi => by
    have := flat_get r i (by simpa using hi)
    rw [Nat.add_mul, Nat.one_mul]
    simpa [flat] using this
/-- Ranges in memory. -/
structure Ts (w : World) (B : Nat) (A : Option Addr) (n c : Nat) (l : List (Int × Nat × Nat)) : Prop where
  len : l.length = n
  cap : n ≤ c
  big : c ≤ maxLen
  cells : 0 < n → ∃ g o, A = some ⟨g, o, none⟩ ∧ g < B ∧ ∀ j (hj : j < l.length), w.cell? ⟨g, o + j * 3, none⟩ = some (.int .i32 l[j].1) ∧ w.cell? ⟨g, o + j * 3 + 1, none⟩ = some (.int .u32 (l[j].2.1 : Int)) ∧ w.cell? ⟨g, o + j * 3 + 2, none⟩ = some (.int .u32 (l[j].2.2 : Int))
theorem Ts.mk_ {w : World} {A : Option Addr} {n c B : Nat} {l : List (Int × Nat × Nat)} (h : Reads w B 3 A n (flat l)) (hl : n = l.length) (hc : n ≤ c) (hb : c ≤ maxLen) : Ts w B A n c l :=
  ⟨hl.symm, hc, hb, fun hn => by
    obtain ⟨g, o, e, hg, hcell⟩ := h.2 hn
    refine ⟨g, o, e, hg, fun j hj => ?_⟩
    obtain ⟨k1, k2, k3⟩ := flat_get l j hj
    exact ⟨hcell _ _ k1, hcell _ _ k2, hcell _ _ k3⟩⟩
theorem Ts.below {w w' : World} {B n c : Nat} {A : Option Addr} {l : List (Int × Nat × Nat)} (h : Ts w B A n c l) (hb : Below B w w') : Ts w' B A n c l :=
  ⟨h.len, h.cap, h.big, fun hn => by
    obtain ⟨g, o, e, hg, hc⟩ := h.cells hn
    exact ⟨g, o, e, hg, fun j hj => ⟨(hb.cell (p := ⟨g, o + j * 3, none⟩) hg).trans (hc j hj).1, (hb.cell (p := ⟨g, o + j * 3 + 1, none⟩) hg).trans (hc j hj).2.1, (hb.cell (p := ⟨g, o + j * 3 + 2, none⟩) hg).trans (hc j hj).2.2⟩⟩⟩

/-- The relation of the law's loop. -/
def LwRel (w0 : World) (q t : Nat) (W : Int) (F : Nat) (all : List (Int × Nat × Nat)) (k : Nat) (v7 v46 : Value) (wr : World) : Prop :=
  ∃ i n : Nat, i + k = all.length ∧ v7 = .int .i64 (n : Int) ∧ v46 = .int .i64 (i : Int) ∧ T3 q t W F all i n ∧ Below w0.heap.size w0 wr

set_option maxRecDepth 100000 in
set_option maxHeartbeats 8000000 in
theorem law13 (A0 A2 A3 : Option Addr) (n0 c0 n2 c2 n3 c3 : Nat) (pcs bef beh : List Int) (sz q place : Int) (w : World)
    (hpcs : Is w w.heap.size A0 n0 c0 .i64 pcs) (hbef : Is w w.heap.size A2 n2 c2 .i32 bef) (hbeh : Is w w.heap.size A3 n3 c3 .i32 beh) (hv : ∀ x ∈ bef, -2147483648 ≤ x ∧ x ≤ 2147483647)
    (hv3 : ∀ x ∈ beh, -2147483648 ≤ x ∧ x ≤ 2147483647) (hp : -9223372036854775808 ≤ place ∧ place ≤ 9223372036854775807) :
    Calls Try.prog 13 #[.agg #[.slice A0 n0 c0, .int .i64 sz, .slice A2 n2 c2, .slice A3 n3 c3, .int .i64 q], .int .i64 place] w (IsPost w (.bool true)) := by
  have hB : Below w.heap.size w (w.alloc (.cells #[.slice A0 n0 c0, .int .i64 sz, .slice A2 n2 c2, .slice A3 n3 c3, .int .i64 q] 49)) := (Below.refl w.heap.size w).alloc (Nat.le_refl _) _
  have HB := Lib.hid hB
  obtain ⟨hp0, hp1⟩ := hp
  by_cases hfit : n0 ≤ 2147483647 ∧ n2 ≤ 2147483647 ∧ n3 ≤ 2147483647
  · have H25 := Lib.hid (fits_yes A0 A2 A3 n0 c0 n2 c2 n3 c3 sz q (w.alloc (.cells #[.slice A0 n0 c0, .int .i64 sz, .slice A2 n2 c2, .slice A3 n3 c3, .int .i64 q] 49)) hfit.1 hfit.2.1 hfit.2.2)
    have H26 : Hid (∀ W, Below w.heap.size w W → _) := Lib.hid fun W hW => codeWell_any A0 A2 A3 n0 c0 n2 c2 n3 c3 sz q pcs W ((hpcs.below hW).more hW.size)
    have HPCS := Lib.hid hpcs
    have HBEF := Lib.hid hbef
    have HBEH := Lib.hid hbeh
    have hblk := Blk.new w 49 #[.slice A0 n0 c0, .int .i64 sz, .slice A2 n2 c2, .slice A3 n3 c3, .int .i64 q]
    have HF := Lib.hid hfit
    have HV := Lib.hid hv
    have HBK := Lib.hid hblk
    clear hpcs hbef hbeh hfit hv hv3 hB hblk
    go_enter Try.func13, Try.ntmps13
    go_wp2_with fail
    refine H25.out.mono ?_
    rintro en w1 ⟨rfl, hbel1⟩
    have HB1 := Lib.hid (HB.out.trans (hbel1.mono HB.out.size))
    have HK1 := Lib.hid (HBK.out.below hbel1 HBK.out.lt)
    have hk1 := fun i => HK1.out.cell i
    clear hbel1
    go_wp2_with fail
    refine (H26.out _ HB1.out).mono ?_
    rintro en w2 ⟨b, rfl, hb, hbel2⟩
    have HB2 := Lib.hid (HB1.out.trans (hbel2.mono HB1.out.size))
    have HK2 := Lib.hid (HK1.out.below hbel2 HK1.out.lt)
    have hk2 : ∀ i, w2.cell? ⟨w.heap.size, i, none⟩ = #[Value.slice A0 n0 c0, .int .i64 sz, .slice A2 n2 c2, .slice A3 n3 c3, .int .i64 q][i]? := fun i => HK2.out.cell i
    have hw1 : w2.cell? ⟨w.heap.size, 1, none⟩ = some (.int .i64 sz) := hk2 1
    have hw0 : w2.cell? ⟨w.heap.size, 0, none⟩ = some (.slice A0 n0 c0) := hk2 0
    have hw2 : w2.cell? ⟨w.heap.size, 2, none⟩ = some (.slice A2 n2 c2) := hk2 2
    have hw3 : w2.cell? ⟨w.heap.size, 3, none⟩ = some (.slice A3 n3 c3) := hk2 3
    have hw4 : w2.cell? ⟨w.heap.size, 4, none⟩ = some (.int .i64 q) := hk2 4
    clear hbel2 hk1 hk2
    cases b with
    | false =>
      clear hb
      go_wp2_with fail
      go_ret
      exact ⟨rfl, HB2.out⟩
    | true =>
      have hwell := hb rfl
      clear hb
      by_cases hneg : place < 0
      · have hd : decide (place < 0) = true := by simpa using hneg
        clear hwell hneg
        go_wp2_with fail
        go_ret
        exact ⟨rfl, HB2.out⟩
      have hdn : decide (place < 0) = false := by simpa using hneg
      by_cases hge : sz ≤ place
      · have hd : decide (sz ≤ place) = true := by simpa using hge
        clear hwell hneg hge
        go_wp2_with fail
        go_ret
        exact ⟨rfl, HB2.out⟩
      have hdg : decide (sz ≤ place) = false := by simpa using hge
      have hs := well_size hwell
      obtain ⟨t, rfl⟩ := Int.eq_ofNat_of_zero_le (show 0 ≤ place by omega)
      obtain ⟨q', rfl⟩ := Int.eq_ofNat_of_zero_le (show 0 ≤ q by omega)
      have hlen := HPCS.out.len
      have hl2 := HBEF.out.len
      have hl3 := HBEH.out.len
      have e2 := hwell.len2
      have e3 := hwell.len3
      have hn := HF.out.1
      obtain ⟨ho, hfit, htl, -, -⟩ := well_table hwell (by omega) HV.out rfl (by omega)
      obtain ⟨p, r, hpr, hfin, hfits, hlooks, hplen⟩ := well_three hwell (by omega) HV.out rfl
      obtain ⟨W, hW⟩ : ∃ W, atPlace t (-1) (pcs.zip bef) = W := ⟨_, rfl⟩
      have hszm := hwell.most
      have HW := Lib.hid (write_any A0 A2 A3 n0 c0 n2 c2 n3 c3 pcs bef beh sz q' w2 ((HPCS.out.below HB2.out).more HB2.out.size) ((HBEF.out.below HB2.out).more HB2.out.size) ((HBEH.out.below HB2.out).more HB2.out.size)
        (by omega) (by omega) hwell.some_ ho (well_first hwell) hs.2.2.1 hs.2.2.2 hwell.most (by omega))
      have HAT : Hid (∀ W', Below w.heap.size w W' → Calls Try.prog 28 #[.agg #[.slice A0 n0 c0, .int .i64 sz, .slice A2 n2 c2, .slice A3 n3 c3, .int .i64 q'], .int .i64 t] W' (IsPost W' (.int .i32 W))) := Lib.hid fun W' hW' => by
        have := codeAt_any A0 A2 A3 n0 c0 n2 c2 n3 c3 sz q' t pcs bef W' ((HPCS.out.below hW').more hW'.size) ((HBEF.out.below hW').more hW'.size) (by omega) hwell.some_
        rw [hW] at this
        exact this
      rw [hpr] at HW htl
      have hqn : q' < 4294967296 := by have := hs.2.2.2; omega
      have HRD : Hid (∀ W' A n c, Bs W' W'.heap.size A n c (tab (p :: r) ++ [0]) → Calls Try.prog 29 #[.slice A n c, .int .u32 (q' : Int)] W' (RangesPost (rng q' 0 (-1) (p :: r)) W')) := Lib.hid fun W' A n c hbs =>
        read_any A n c q' p r W' hbs (hfits 0 (by omega)) (by omega) hqn (by omega) (by have := hbs.len; omega)
      have HVAL : Hid (∀ W' A n c, Bs W' W'.heap.size A n c (tab (p :: r) ++ [0]) → Calls Try.prog 22 #[.slice A n c, .int .u32 (q' : Int), .int .u32 0, .int .u64 1099511627776, .int .u64 (1099511627776 + (t : Int))] W' (IsPost W' (.int .i32 W))) := Lib.hid fun W' A n c hbs => by
        have := value_any A n c q' 1099511627776 (1099511627776 + t) [] [] (p :: r) W' hbs (hfits 1099511627776 (by omega)) (by decide) (by decide) (by have := hbs.len; omega)
        rw [hlooks 1099511627776 t (by omega), hW] at this
        exact this
      have HT3 : Hid (T3 q' t W (fin q' 0 (p :: r)) (rng q' 0 (-1) (p :: r)) 0 0) := Lib.hid ⟨0, -1, p :: r, rfl, At1.start (by have := hlooks 0 t (by omega); rw [Nat.zero_add, hW] at this; exact this), by omega⟩
      obtain ⟨F, hF⟩ : ∃ F, fin q' 0 (p :: r) = F := ⟨_, rfl⟩
      obtain ⟨all, hall⟩ : ∃ all, rng q' 0 (-1) (p :: r) = all := ⟨_, rfl⟩
      rw [hF, hall] at HT3
      rw [hF] at hfin
      rw [hall] at HRD
      have htF : t < F := by omega
      have hFm : F ≤ 1073741824 := by omega
      obtain ⟨q1, q2, q3, q4⟩ := hs
      have HTF := Lib.hid htF
      have HFM := Lib.hid hFm
      clear hwell hge hneg ho hfit hfits hfin hlooks htl hplen hlen hl2 hl3 e2 e3 hn q2 hpr hF hall hW htF hFm
      generalize tab (p :: r) ++ [0] = T at *
      have ht30 : (t : Int) ≤ 1073741824 := by have := HTF.out; have := HFM.out; omega
      go_wp2_with fail
      refine HW.out.mono ?_
      rintro en w3 ⟨A, n, c, rfl, hbs, hbel3⟩
      have HB3 := Lib.hid (HB2.out.trans (hbel3.mono HB2.out.size))
      have HBS3 := Lib.hid hbs
      have HK3 := Lib.hid (HK2.out.below hbel3 HK2.out.lt)
      have hk3 := fun i => HK3.out.cell i
      clear hbs hbel3 hw0 hw1 hw2 hw3 hw4
      go_wp2_with fail
      refine (HAT.out w3 HB3.out).mono ?_
      rintro en w4 ⟨rfl, hbel4⟩
      have HB4 := Lib.hid (HB3.out.trans (hbel4.mono HB3.out.size))
      have HBS4 := Lib.hid ((HBS3.out.below hbel4).more hbel4.size)
      have HK4 := Lib.hid (HK3.out.below hbel4 HK3.out.lt)
      have hk4 : w4.cell? ⟨w.heap.size, 4, none⟩ = some (.int .i64 q') := HK4.out.cell 4
      clear hbel4 hk3
      go_wp2_with fail
      refine (HRD.out w4 A n c HBS4.out).mono ?_
      rintro en w5 ⟨A5, m, c5, rfl, hrd, hm, hc1, hc2, hbel5⟩
      have HB5 := Lib.hid (HB4.out.trans (hbel5.mono HB4.out.size))
      have HBS5 := Lib.hid ((HBS4.out.below hbel5).more hbel5.size)
      have HK5 := Lib.hid (HK4.out.below hbel5 HK4.out.lt)
      have HTS := Lib.hid (Ts.mk_ hrd hm hc1 hc2)
      have HM := Lib.hid hm
      have HST : Hid (LwRel w5 q' t W F all m (.int .i64 0) (.int .i64 0) w5) := Lib.hid ⟨0, 0, by omega, rfl, rfl, HT3.out, Below.refl _ _⟩
      unfold maxLen at hc2
      clear hrd hm hbel5 hk4 HT3 HAT HRD HW
      go_wp2_with fail
      go_loopg [7, 46] m (fun k v7 v46 wr => LwRel w5 q' t W F all k v7 v46 wr)
      case atStart => exact HST.out
      case round =>
        clear HST
        cases gk with
        | zero =>
          obtain ⟨i, nn, hi, rfl, rfl, ht3, hbel⟩ := hrel
          have hin : ¬ i < m := by have := HM.out; omega
          obtain rfl : nn = 1 := ht3.done (by omega) HTF.out
          have HBS := Lib.hid ((HBS5.out.below hbel).more hbel.size)
          have hk6 : wr.cell? ⟨w.heap.size, 4, none⟩ = some (.int .i64 q') := (HK5.out.below hbel HK5.out.lt).cell 4
          have HBR := Lib.hid (HB5.out.trans (hbel.mono HB5.out.size))
          clear hi ht3 hbel
          go_wp2_with fail
          refine (HVAL.out wr A n c HBS.out).mono ?_
          rintro en w6 ⟨rfl, hbel6⟩
          have HR := Lib.hid (HBR.out.trans (hbel6.mono HBR.out.size))
          clear hbel6
          go_wp2_with fail
          go_ret
          exact ⟨rfl, HR.out⟩
        | succ k =>
          obtain ⟨i, nn, hi, rfl, rfl, ht3, hbel⟩ := hrel
          have hil : i < all.length := by omega
          have hin : i < m := by have := HM.out; omega
          obtain ⟨v, e, e', hx, he1, he2, hnn, hcase⟩ := ht3.next hil
          obtain ⟨g, o, rfl, hg, hc⟩ := (HTS.out.below hbel).cells (by omega)
          obtain ⟨x0, x1, x2⟩ := hc i hil
          rw [hx] at x0 x1 x2
          simp only at x0 x1 x2
          have HBA := Lib.hid (hbel.alloc hbel.size (.cells #[.int .i32 v, .int .u32 (e : Int), .int .u32 (e' : Int)] 58))
          have HI := Lib.hid hi
          have m1 : (e : Int) ≤ 1073741824 := by have := HFM.out; omega
          have m2 : (e' : Int) ≤ 1073741824 := by have := HFM.out; omega
          have m3 : (nn : Int) ≤ 1 := by omega
          clear hi hbel hc hx he1 he2 hnn ht3 hil
          rcases hcase with ⟨c1, c2, rfl, rfl, h3⟩ | ⟨c1, h3⟩ | ⟨c1, c2, h3⟩
          · have d1 : decide ((e : Int) ≤ (t : Int)) = true := by simp; omega
            have d2 : decide ((t : Int) < (e' : Int)) = true := by simp; omega
            have d3 : decide (e ≤ t) = true := by simpa using c1
            have d4 : decide (t < e') = true := by simpa using c2
            have H3 := Lib.hid h3
            clear h3 c1 c2
            go_wp2_with fail
            go_roundg k
            case measure => omega
            case rel => exact ⟨i + 1, 1, by have := HI.out; omega, rfl, rfl, H3.out, HBA.out⟩
          · have d1 : decide ((e : Int) ≤ (t : Int)) = false := by simp; omega
            have d3 : decide (e ≤ t) = false := by simp; omega
            have H3 := Lib.hid h3
            clear h3 c1
            go_wp2_with fail
            go_roundg k
            case measure => omega
            case rel => exact ⟨i + 1, nn, by have := HI.out; omega, rfl, rfl, H3.out, HBA.out⟩
          · have d1 : decide ((e : Int) ≤ (t : Int)) = true := by simp; omega
            have d2 : decide ((t : Int) < (e' : Int)) = false := by simp; omega
            have d3 : decide (e ≤ t) = true := by simpa using c1
            have d4 : decide (t < e') = false := by simp; omega
            have H3 := Lib.hid h3
            clear h3 c1 c2
            go_wp2_with fail
            go_roundg k
            case measure => omega
            case rel => exact ⟨i + 1, nn, by have := HI.out; omega, rfl, rfl, H3.out, HBA.out⟩
  · have H25 := Lib.hid (fits_no A0 A2 A3 n0 c0 n2 c2 n3 c3 sz q (w.alloc (.cells #[.slice A0 n0 c0, .int .i64 sz, .slice A2 n2 c2, .slice A3 n3 c3, .int .i64 q] 49)) hfit)
    clear hpcs hbef hbeh hfit hv hB
    go_enter Try.func13, Try.ntmps13
    go_wp2_with fail
    refine H25.out.mono ?_
    rintro en w1 ⟨rfl, hbel1⟩
    have HR := Lib.hid (HB.out.trans (hbel1.mono HB.out.size))
    clear hbel1
    go_wp2_with fail
    go_ret
    exact ⟨rfl, HR.out⟩
end Go.Proofs.Ytfbnnbbjfjhkjaa
