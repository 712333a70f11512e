/- The walk of step: one step of a table, and its end. -/
import Derived.Test.YtfbnnbbjfjhkjaaRead
import Derived.Deep.RegionWith
import Derived.Deep.RegionHeld3
import Derived.Deep.DeepFit
namespace Go.Proofs.Ytfbnnbbjfjhkjaa
open Go.RowKit

/-- What 'step' leaves: more or not; the slice's cell, the place, the value; nothing else has turned. -/
def StPost (w : World) (B gp gc gv : Nat) (more : Bool) (rest : List UInt8) (pc v : Int) (en : Ending) (w' : World) : Prop :=
  ∃ A' n' c', en = .returned (.bool more) ∧ Blk w' gp 23 #[.slice A' n' c'] ∧ Bs w' B A' n' c' rest ∧ Blk w' gc 30 #[.int .u64 pc] ∧ Blk w' gv 21 #[.int .i32 v] ∧
    Below B w w' ∧ ∀ k, k ≠ gp → k ≠ gc → k ≠ gv → w'.heap[k]? = w.heap[k]?

theorem st_close {w : World} {B gp gc gv n2 c2 : Nat} {sv u1 : Value} {A2 : Option Addr} {rest : List UInt8} {pc v X Y Y' : Int} (hp : Blk w gp 23 #[sv]) (hc : Blk w gc 30 #[.int .u64 pc]) (hv : Blk w gv 21 #[.int .i32 v])
    (hB : B ≤ gp) (hBc : B ≤ gc) (hBv : B ≤ gv) (hb2 : Bs (w.setCell ⟨gp, 0, none⟩ u1).drew B A2 n2 c2 rest) (hY : Y' = Y) :
    StPost w B gp gc gv true rest X Y (.returned (.bool true))
      ((((w.setCell ⟨gp, 0, none⟩ u1).setCell ⟨gp, 0, none⟩ (.slice A2 n2 c2)).setCell ⟨gc, 0, none⟩ (.int .u64 X)).setCell ⟨gv, 0, none⟩ (.int .i32 Y')).drew := by
  subst hY
  have hpc : gp ≠ gc := hp.ne_ hc (by decide)
  have hpv : gp ≠ gv := hp.ne_ hv (by decide)
  have hcv : gc ≠ gv := hc.ne_ hv (by decide)
  refine ⟨A2, n2, c2, rfl, ?_, ?_, ?_, ?_, ?_, fun k k1 k2 k3 => ?_⟩
  · exact (((((hp.set_ 0 u1).set_ 0 _).far (p := ⟨gc, 0, none⟩) hpc _).far (p := ⟨gv, 0, none⟩) hpv _).drew)
  · exact (((hb2.keep (w' := w.setCell ⟨gp, 0, none⟩ u1) fun _ _ => rfl).setCell (p := ⟨gp, 0, none⟩) hB _).setCell (p := ⟨gc, 0, none⟩) hBc _).setCell (p := ⟨gv, 0, none⟩) hBv _ |>.drew
  · exact ((((hc.far (p := ⟨gp, 0, none⟩) (Ne.symm hpc) u1).far (p := ⟨gp, 0, none⟩) (Ne.symm hpc) _).set_ 0 _).far (p := ⟨gv, 0, none⟩) hcv _).drew
  · exact ((((hv.far (p := ⟨gp, 0, none⟩) (Ne.symm hpv) u1).far (p := ⟨gp, 0, none⟩) (Ne.symm hpv) _).far (p := ⟨gc, 0, none⟩) (Ne.symm hcv) _).set_ 0 _).drew
  · exact (((((Below.refl B w).setCell (p := ⟨gp, 0, none⟩) hB u1).setCell (p := ⟨gp, 0, none⟩) hB _).setCell (p := ⟨gc, 0, none⟩) hBc _).setCell (p := ⟨gv, 0, none⟩) hBv _).drew
  · show (((((w.setCell ⟨gp, 0, none⟩ u1).setCell ⟨gp, 0, none⟩ _).setCell ⟨gc, 0, none⟩ _).setCell ⟨gv, 0, none⟩ _)).heap[k]? = _
    rw [Below.heap_setCell _ _ _ _ (by exact k3), Below.heap_setCell _ _ _ _ (by exact k2), Below.heap_setCell _ _ _ _ (by exact k1), Below.heap_setCell _ _ _ _ (by exact k1)]

set_option maxHeartbeats 400000 in
theorem step_more (gt gp gc gv B : Nat) (A : Option Addr) (n c : Nat) (e1 e2 rest : List UInt8) (y1 y2 : Nat) (q d pc v : Int) (x : Value) (first : Bool) (w : World)
    (ht : Blk w gt 66 #[.int .u32 q, x]) (hp : Blk w gp 23 #[.slice A n c]) (hc : Blk w gc 30 #[.int .u64 pc]) (hv : Blk w gv 21 #[.int .i32 v])
    (hb : Bs w B A n c (e1 ++ (e2 ++ rest))) (hB : B ≤ gp) (hBc : B ≤ gc) (hBv : B ≤ gv) (h1 : Grp e1) (h2 : Grp e2) (hl1 : e1.length ≤ 1000) (hl2 : e2.length ≤ 1000)
    (hy1 : y1 = val e1 % 4294967296) (hy2 : y2 = val e2 % 4294967296) (hfirst : first = true ∨ y1 ≠ 0) (hd : y2 * q = d) (hd0 : 0 ≤ d) (hd1 : d < 4294967296) :
    Calls Try.prog 36 #[.pointer (some ⟨gt, 0, none⟩), .pointer (some ⟨gp, 0, none⟩), .pointer (some ⟨gc, 0, none⟩), .pointer (some ⟨gv, 0, none⟩), .bool first] w
      (StPost w B gp gc gv true rest (IntKind.u64.wrap (pc + d)) (wrap32 (v + zag y1))) := by
  have ht0 : w.cell? ⟨gt, 0, none⟩ = some (.int .u32 q) := ht.cell 0
  have hpt : gp ≠ gt := hp.ne_ ht (by decide)
  have hpc : gp ≠ gc := hp.ne_ hc (by decide)
  have hpv : gp ≠ gv := hp.ne_ hv (by decide)
  have hcv : gc ≠ gv := hc.ne_ hv (by decide)
  have hc0 : w.cell? ⟨gc, 0, none⟩ = some (.int .u64 pc) := hc.cell 0
  have hv0 : w.cell? ⟨gv, 0, none⟩ = some (.int .i32 v) := hv.cell 0
  have hcf := hc.free 0
  have hvf := hv.free 0
  have hmul : IntKind.u32.wrap (y2 * q) = d := by rw [hd, u32_wrap_id _ hd0 hd1]
  clear hd
  have hr1 := readvarint_any (some ⟨gt, 0, none⟩) gp B A n c e1 (e2 ++ rest) y1 w hp hb h1 hl1 hy1
  have H1 := Lib.hid hr1
  have hbit : bits .and .u32 (y1 : Int) 1 = ((y1 % 2 : Nat) : Int) := by
    have := bits_mask .u32 32 (by decide) wraps_u32 1 (by decide) (y1 : Int) (by omega) (by omega)
    have e3 : ((2 : Int) ^ 1 - 1) = 1 := by decide
    have e4 : ((2 : Int) ^ 1) = 2 := by decide
    rw [e3, e4] at this
    rw [this]
    omega
  have hlt : y1 < 4294967296 := by omega
  have HY1 := Lib.hid hy1
  have HY2 := Lib.hid hy2
  clear hr1 hy1 hy2
  have hcase : (y1 = 0 ∧ first = true) ∨ (y1 ≠ 0 ∧ y1 % 2 = 0) ∨ (y1 ≠ 0 ∧ y1 % 2 = 1) := by
    rcases hfirst with h | h
    · by_cases h0 : y1 = 0
      · exact .inl ⟨h0, h⟩
      · omega
    · omega
  clear hfirst
  rcases hcase with ⟨rfl, rfl⟩ | ⟨h0, hev⟩ | ⟨h0, hod⟩
  · clear hbit
    go_enter Try.func36, Try.ntmps36
    go_wp2_with fail
    refine (H1.out).mono ?_
    rintro en w1 ⟨A1, n1, c1, rfl, rfl, hb1⟩
    have H2 := Lib.hid (readvarint_any (some ⟨gt, 0, none⟩) gp B A1 n1 c1 e2 rest y2 (w.setCell ⟨gp, 0, none⟩ (.slice A1 n1 c1)).drew (hp.set_ 0 _) (hb1.setCell (p := ⟨gp, 0, none⟩) hB _).drew h2 hl2 HY2.out)
    go_wp2_with fail
    go_region_with (go_at_call 35; refine (H2.out).mono ?_; rintro en w2 ⟨A2, n2, c2, rfl, rfl, hb2⟩)
    all_goals
      go_wp2
      go_ret
      exact st_close hp hc hv hB hBc hBv hb2 (by rw [zag_zero, Int.add_zero])
  · rw [hev] at hbit
    have hD := step_even y1 hev hlt
    clear hlt
    generalize zag y1 = D at *
    have hz : ((y1 : Int) == 0) = false := by simp; omega
    go_enter Try.func36, Try.ntmps36
    go_wp2_with fail
    refine (H1.out).mono ?_
    rintro en w1 ⟨A1, n1, c1, rfl, rfl, hb1⟩
    have H2 := Lib.hid (readvarint_any (some ⟨gt, 0, none⟩) gp B A1 n1 c1 e2 rest y2 (w.setCell ⟨gp, 0, none⟩ (.slice A1 n1 c1)).drew (hp.set_ 0 _) (hb1.setCell (p := ⟨gp, 0, none⟩) hB _).drew h2 hl2 HY2.out)
    go_wp2_with fail
    go_region_with (go_at_call 35; refine (H2.out).mono ?_; rintro en w2 ⟨A2, n2, c2, rfl, rfl, hb2⟩)
    all_goals
      go_wp2
      go_ret
      exact st_close hp hc hv hB hBc hBv hb2 rfl
  · rw [hod] at hbit
    have hD := step_odd y1 hod hlt
    clear hlt
    generalize zag y1 = D at *
    have hz : ((y1 : Int) == 0) = false := by simp; omega
    go_enter Try.func36, Try.ntmps36
    go_wp2_with fail
    refine (H1.out).mono ?_
    rintro en w1 ⟨A1, n1, c1, rfl, rfl, hb1⟩
    have H2 := Lib.hid (readvarint_any (some ⟨gt, 0, none⟩) gp B A1 n1 c1 e2 rest y2 (w.setCell ⟨gp, 0, none⟩ (.slice A1 n1 c1)).drew (hp.set_ 0 _) (hb1.setCell (p := ⟨gp, 0, none⟩) hB _).drew h2 hl2 HY2.out)
    go_wp2_with fail
    go_region_with (go_at_call 35; refine (H2.out).mono ?_; rintro en w2 ⟨A2, n2, c2, rfl, rfl, hb2⟩)
    all_goals
      go_wp2
      go_ret
      exact st_close hp hc hv hB hBc hBv hb2 rfl

set_option maxHeartbeats 400000 in
theorem step_stop (gt gp gc gv B : Nat) (A : Option Addr) (n c : Nat) (e1 rest : List UInt8) (pc v : Int) (w : World)
    (hp : Blk w gp 23 #[.slice A n c]) (hc : Blk w gc 30 #[.int .u64 pc]) (hv : Blk w gv 21 #[.int .i32 v])
    (hb : Bs w B A n c (e1 ++ rest)) (hB : B ≤ gp) (h1 : Grp e1) (hl1 : e1.length ≤ 1000) (hy1 : 0 = val e1 % 4294967296) :
    Calls Try.prog 36 #[.pointer (some ⟨gt, 0, none⟩), .pointer (some ⟨gp, 0, none⟩), .pointer (some ⟨gc, 0, none⟩), .pointer (some ⟨gv, 0, none⟩), .bool false] w
      (StPost w B gp gc gv false rest pc v) := by
  have H1 := Lib.hid (readvarint_any (some ⟨gt, 0, none⟩) gp B A n c e1 rest 0 w hp hb h1 hl1 hy1)
  have HY1 := Lib.hid hy1
  clear hy1
  go_enter Try.func36, Try.ntmps36
  go_wp2_with fail
  refine (H1.out).mono ?_
  rintro en w1 ⟨A1, n1, c1, rfl, rfl, hb1⟩
  go_wp2_with fail
  go_ret
  have hpc : gp ≠ gc := hp.ne_ hc (by decide)
  have hpv : gp ≠ gv := hp.ne_ hv (by decide)
  refine ⟨A1, n1, c1, rfl, hp.set_ 0 _, hb1.setCell (p := ⟨gp, 0, none⟩) hB _, hc.far (p := ⟨gp, 0, none⟩) (Ne.symm hpc) _, hv.far (p := ⟨gp, 0, none⟩) (Ne.symm hpv) _, (Below.refl B w).setCell (p := ⟨gp, 0, none⟩) hB _, fun k k1 _ _ => Below.heap_setCell _ _ _ _ (by exact k1)⟩
end Go.Proofs.Ytfbnnbbjfjhkjaa
