/- The walk of At of the reference function (28). -/
import Derived.Test.YtfbnnbbjfjhkjaaWr
import Derived.Test.YtfbnnbbjfjhkjaaOrd
namespace Go.Proofs.Ytfbnnbbjfjhkjaa
open Go.RowKit
set_option linter.unusedVariables false

/-- The relation of At's loop. -/
def CatRel (W : World) (ins : List (Int × Int)) (place R : Int) (k : Nat) (v5 v11 : Value) (wr : World) : Prop :=
  ∃ (i : Nat) (v : Int), i + k = ins.length ∧ v5 = .int .i32 v ∧ v11 = .int .i64 (i : Int) ∧ atPlace place v (ins.drop i) = R ∧ W = wr

set_option maxRecDepth 100000 in
set_option maxHeartbeats 4000000 in
theorem codeAt_any (A0 A2 A3 : Option Addr) (n0 c0 n2 c2 n3 c3 : Nat) (sz q place : Int) (pcs bef : List Int) (w : World)
    (hpcs : Is w w.heap.size A0 n0 c0 .i64 pcs) (hbef : Is w w.heap.size A2 n2 c2 .i32 bef) (hl2 : bef.length = pcs.length) (hpos : 0 < pcs.length) :
    Calls Try.prog 28 #[.agg #[.slice A0 n0 c0, .int .i64 sz, .slice A2 n2 c2, .slice A3 n3 c3, .int .i64 q], .int .i64 place] w (IsPost w (.int .i32 (atPlace place (-1) (pcs.zip bef)))) := by
  have hB : Below w.heap.size w (w.alloc (.cells #[.slice A0 n0 c0, .int .i64 sz, .slice A2 n2 c2, .slice A3 n3 c3, .int .i64 q] 49)) := (Below.refl w.heap.size w).alloc (Nat.le_refl _) _
  have HB := Lib.hid hB
  have hlen := hpcs.len
  have hlen2 := hbef.len
  have hcap := hpcs.cap
  have hbig := hpcs.big
  have hcap2 := hbef.cap
  have hbig2 := hbef.big
  unfold maxLen at hbig hbig2
  obtain ⟨g0, o0, rfl, hg0, _⟩ := hpcs.cells (by omega)
  obtain ⟨g2, o2, rfl, hg2, _⟩ := hbef.cells (by omega)
  have HP := Lib.hid (hpcs.below hB)
  have HF := Lib.hid (hbef.below hB)
  obtain ⟨ins, hins⟩ : ∃ ins, pcs.zip bef = ins := ⟨_, rfl⟩
  have hil : ins.length = n0 := by rw [← hins, List.length_zip]; omega
  have h20 : n2 = n0 := by omega
  subst h20
  rw [hins]
  have HINS := Lib.hid hins
  have HIL := Lib.hid hil
  have HL := Lib.hid hlen
  have HL2 := Lib.hid hlen2
  have hst : Hid (CatRel (w.alloc (.cells #[.slice (some ⟨g0, o0, none⟩) n2 c0, .int .i64 sz, .slice (some ⟨g2, o2, none⟩) n2 c2, .slice A3 n3 c3, .int .i64 q] 49)) ins place (atPlace place (-1) ins) n2 (.int .i32 (-1)) (.int .i64 0) (w.alloc (.cells #[.slice (some ⟨g0, o0, none⟩) n2 c0, .int .i64 sz, .slice (some ⟨g2, o2, none⟩) n2 c2, .slice A3 n3 c3, .int .i64 q] 49))) :=
    Lib.hid ⟨0, -1, by omega, rfl, rfl, by rw [List.drop_zero], rfl⟩
  generalize atPlace place (-1) ins = R at *
  clear hB hpcs hbef hlen hlen2 hil hins hl2 hpos
  go_enter Try.func28, Try.ntmps28
  go_wp2_with fail
  go_loopg [5, 11] n2 (fun k v5 v11 wr => CatRel (w.alloc (.cells #[.slice (some ⟨g0, o0, none⟩) n2 c0, .int .i64 sz, .slice (some ⟨g2, o2, none⟩) n2 c2, .slice A3 n3 c3, .int .i64 q] 49)) ins place R k v5 v11 wr)
  case atStart => exact hst.out
  case round =>
    obtain ⟨i, v, hi, rfl, rfl, hR, rfl⟩ := hrel
    cases gk with
    | zero =>
      have hin : ¬ i < n2 := by have := HIL.out; omega
      rw [List.drop_eq_nil_of_le (by omega)] at hR
      have HR : Hid (v = R) := Lib.hid hR
      clear hR hst hi
      go_wp2_with fail
      go_ret
      exact ⟨by rw [HR.out]; rfl, HB.out⟩
    | succ k =>
      have hin : i < n2 := by have := HIL.out; omega
      have hi1 : i < pcs.length := by have := HL.out; omega
      have hi2 : i < bef.length := by have := HL2.out; omega
      obtain ⟨x, hx⟩ : ∃ x, pcs[i] = x := ⟨_, rfl⟩
      obtain ⟨b, hb⟩ : ∃ b, bef[i] = b := ⟨_, rfl⟩
      have e1 : ins[i]'(by have := HIL.out; omega) = (x, b) := by simp only [← HINS.out, List.getElem_zip, hx, hb]
      rw [List.drop_eq_getElem_cons (by have := HIL.out; omega), e1, atPlace] at hR
      have hcx : (w.alloc (.cells #[.slice (some ⟨g0, o0, none⟩) n2 c0, .int .i64 sz, .slice (some ⟨g2, o2, none⟩) n2 c2, .slice A3 n3 c3, .int .i64 q] 49)).cell? ⟨g0, o0 + i, none⟩ = some (.int .i64 x) := by
        obtain ⟨g, o, e, _, hc⟩ := HP.out.cells (by omega)
        injection e with e
        injection e with e1 e2
        subst e1 e2
        rw [← hx]
        exact hc i hi1
      have hcb : (w.alloc (.cells #[.slice (some ⟨g0, o0, none⟩) n2 c0, .int .i64 sz, .slice (some ⟨g2, o2, none⟩) n2 c2, .slice A3 n3 c3, .int .i64 q] 49)).cell? ⟨g2, o2 + i, none⟩ = some (.int .i32 b) := by
        obtain ⟨g, o, e, _, hc⟩ := HF.out.cells (by omega)
        injection e with e
        injection e with e1 e2
        subst e1 e2
        rw [← hb]
        exact hc i hi2
      have HI := Lib.hid hi
      have HR := Lib.hid hR
      clear hi hR hst hx hb e1 hi1 hi2
      by_cases hle : x ≤ place
      · have hd : decide (x ≤ place) = true := by simpa using hle
        have HLE := Lib.hid hle
        clear hle
        go_wp2_with fail
        go_roundg k
        case measure => omega
        case rel => exact ⟨i + 1, b, by have := HI.out; omega, rfl, rfl, by have := HR.out; rw [if_pos (by have := HLE.out; omega)] at this; exact this, rfl⟩
      · have hd : decide (x ≤ place) = false := by simpa using hle
        have HLE := Lib.hid hle
        clear hle
        go_wp2_with fail
        go_roundg k
        case measure => omega
        case rel => exact ⟨i + 1, v, by have := HI.out; omega, rfl, rfl, by have := HR.out; rw [if_neg (by have := HLE.out; omega)] at this; exact this, rfl⟩
end Go.Proofs.Ytfbnnbbjfjhkjaa
