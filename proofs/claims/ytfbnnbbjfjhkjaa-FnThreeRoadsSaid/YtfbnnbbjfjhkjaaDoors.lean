/- The walks of ZZReadVarint and ZZStep. -/
import Derived.Test.YtfbnnbbjfjhkjaaStep
import Derived.BigQuiet
import Derived.Deep.QuietTactic
namespace Go.Proofs.Ytfbnnbbjfjhkjaa
open Go.RowKit

/-- What 'ZZReadVarint' and 'ReadVarint' leave. -/
def NumPost (w : World) (y : Nat) (rest : List UInt8) (en : Ending) (w' : World) : Prop :=
  ∃ A' n' c', en = .returned (.tuple #[.int .u32 (y : Int), .slice A' n' c']) ∧ Bs w' w'.heap.size A' n' c' rest ∧ Below w.heap.size w w'

set_option maxHeartbeats 400000 in
theorem zzreadvarint_any (A : Option Addr) (n c : Nat) (e rest : List UInt8) (y : Nat) (w : World)
    (hb : Bs w w.heap.size A n c (e ++ rest)) (he : Grp e) (hl : e.length ≤ 1000) (hy : y = val e % 4294967296) :
    Calls Try.prog 30 #[.slice A n c] w (NumPost w y rest) := by
  have HY := Lib.hid hy
  clear hy
  go_enter Try.func30, Try.ntmps30
  have hB1 := (Below.refl w.heap.size w).alloc (Nat.le_refl _) (.cells #[.slice A n c] 23)
  have hB2 := hB1.alloc (by simp) (.cells #[.int .u32 0, .slice none 0 0] 66)
  have hc := ((Blk.new w 23 #[.slice A n c]).alloc (.cells #[.int .u32 0, .slice none 0 0] 66))
  have H := Lib.hid (readvarint_any (some ⟨w.heap.size + 1, 0, none⟩) w.heap.size w.heap.size A n c e rest y _ hc (hb.below hB2) he hl HY.out)
  have HB := Lib.hid hB2
  clear hB1 hB2 hc hb
  go_wp2_with fail
  refine H.out.mono ?_
  rintro en w1 ⟨A1, n1, c1, rfl, rfl, hb1⟩
  have HB1 := Lib.hid hb1
  clear hb1
  go_wp2_with fail
  go_quiet (fail)
  go_wp2
  go_ret2
  have hB' : Below w.heap.size w (((w.alloc (.cells #[.slice A1 n1 c1] 23)).alloc (.cells #[.int .u32 0, .slice none 0 0] 66)).drewN nq) :=
    below_drewN (((Below.refl w.heap.size w).alloc (Nat.le_refl _) _).alloc (by simp) _) nq
  exact ⟨A1, n1, c1, rfl, (HB1.out.over HB.out hB').more hB'.size, hB'⟩

/-- What 'ZZStep' leaves. -/
def StepPost (w : World) (more : Bool) (rest : List UInt8) (pc v : Int) (en : Ending) (w' : World) : Prop :=
  ∃ A' n' c', en = .returned (.tuple #[.slice A' n' c', .int .u64 pc, .int .i32 v, .bool more]) ∧ Bs w' w'.heap.size A' n' c' rest ∧ Below w.heap.size w w'

theorem results_four {fn : Func} {t u v x : Tmp} (h : fn.results = #[.tmp t, .tmp u, .tmp v, .tmp x]) (tmps : Array Value) (P : Program) (w : World) :
    (results fn tmps).run P w = .ok (.tuple #[tmps.getD t undef, tmps.getD u undef, tmps.getD v undef, tmps.getD x undef]) w := by simp [results, h]

set_option maxHeartbeats 400000 in
theorem zzstep_any (A : Option Addr) (n c : Nat) (q pc v : Int) (first : Bool) (more : Bool) (rest : List UInt8) (pc2 v2 : Int) (w : World)
    (hstep : ∀ gt gp gc gv W, w.heap.size ≤ gp → w.heap.size ≤ gc → w.heap.size ≤ gv → Blk W gt 66 #[.int .u32 q, .slice none 0 0] → Blk W gp 23 #[.slice A n c] → Blk W gc 30 #[.int .u64 pc] → Blk W gv 21 #[.int .i32 v] → Below w.heap.size w W →
      Calls Try.prog 36 #[.pointer (some ⟨gt, 0, none⟩), .pointer (some ⟨gp, 0, none⟩), .pointer (some ⟨gc, 0, none⟩), .pointer (some ⟨gv, 0, none⟩), .bool first] W
        (StPost W w.heap.size gp gc gv more rest pc2 v2)) :
    Calls Try.prog 31 #[.int .u32 q, .slice A n c, .int .u64 pc, .int .i32 v, .bool first] w (StepPost w more rest pc2 v2) := by
  have b1 := (Below.refl w.heap.size w).alloc (Nat.le_refl _) (.cells #[.slice A n c] 23)
  have b2 := b1.alloc (by simp) (.cells #[.int .u64 pc] 30)
  have b3 := b2.alloc (by simp; omega) (.cells #[.int .i32 v] 21)
  have b4 := b3.alloc (by simp; omega) (.cells #[.int .u32 q, .slice none 0 0] 66)
  have k1 := (((Blk.new w 23 #[.slice A n c]).alloc (.cells #[.int .u64 pc] 30)).alloc (.cells #[.int .i32 v] 21)).alloc (.cells #[.int .u32 q, .slice none 0 0] 66)
  have k2 := ((Blk.new (w.alloc (.cells #[.slice A n c] 23)) 30 #[.int .u64 pc]).alloc (.cells #[.int .i32 v] 21)).alloc (.cells #[.int .u32 q, .slice none 0 0] 66)
  have k3 := (Blk.new ((w.alloc (.cells #[.slice A n c] 23)).alloc (.cells #[.int .u64 pc] 30)) 21 #[.int .i32 v]).alloc (.cells #[.int .u32 q, .slice none 0 0] 66)
  have k4 := Blk.new (((w.alloc (.cells #[.slice A n c] 23)).alloc (.cells #[.int .u64 pc] 30)).alloc (.cells #[.int .i32 v] 21)) 66 #[.int .u32 q, .slice none 0 0]
  have z1 : (w.alloc (.cells #[.slice A n c] 23)).heap.size = w.heap.size + 1 := by simp
  have z2 : ((w.alloc (.cells #[.slice A n c] 23)).alloc (.cells #[.int .u64 pc] 30)).heap.size = w.heap.size + 1 + 1 := by simp
  have z3 : (((w.alloc (.cells #[.slice A n c] 23)).alloc (.cells #[.int .u64 pc] 30)).alloc (.cells #[.int .i32 v] 21)).heap.size = w.heap.size + 1 + 1 + 1 := by simp
  rw [z1] at k2
  rw [z2] at k3
  rw [z3] at k4
  have HS := Lib.hid (hstep _ _ _ _ _ (Nat.le_refl _) (by omega) (by omega) k4 k1 k2 k3 b4)
  have HB := Lib.hid b4
  clear hstep b1 b2 b3 b4 k1 k2 k3 k4 z1 z2 z3
  go_enter Try.func31, Try.ntmps31
  go_wp2_with fail
  refine HS.out.mono ?_
  rintro en w1 ⟨A1, n1, c1, rfl, hp1, hb1, hc1, hv1, hbel, -⟩
  have p0 : w1.cell? ⟨w.heap.size, 0, none⟩ = some (.slice A1 n1 c1) := hp1.cell 0
  have c0 : w1.cell? ⟨w.heap.size + 1, 0, none⟩ = some (.int .u64 pc2) := hc1.cell 0
  have v0 : w1.cell? ⟨w.heap.size + 1 + 1, 0, none⟩ = some (.int .i32 v2) := hv1.cell 0
  have HB1 := Lib.hid hb1
  have HBel := Lib.hid hbel
  clear hp1 hc1 hv1 hb1 hbel
  go_wp2_with fail
  go_quiet (fail)
  go_wp2
  refine bodyPost_ret (results_four rfl _ _ _) rfl ?_
  have hb := below_drewN (HB.out.trans HBel.out) nq
  exact ⟨A1, n1, c1, rfl, (HB1.out.keep (w' := w1.drewN nq) fun _ _ => rfl).more hb.size, hb⟩
end Go.Proofs.Ytfbnnbbjfjhkjaa
