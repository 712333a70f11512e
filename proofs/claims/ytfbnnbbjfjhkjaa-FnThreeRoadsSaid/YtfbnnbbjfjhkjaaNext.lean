/- The walk of Next of the thin package. -/
import Derived.Test.YtfbnnbbjfjhkjaaThin
namespace Go.Proofs.Ytfbnnbbjfjhkjaa
open Go.RowKit

/-- A row of the call's own does not lie in a block of another element type. -/
theorem own_ne {w : World} {base : Nat} {e t : TypeId} {size n g : Nat} {v : Value} {xs : List Value} {cs : Array Value} (h : w.ownsRow base e size v n xs) (hg : Blk w g t cs) (hne : e ≠ t) : v.ownBlock ≠ some g := by
  rcases h.2 with ⟨rfl, _⟩ | ⟨g', cap, cur, rfl, _, hh, _⟩
  · simp [Value.ownBlock]
  · intro he
    have : g' = g := by simpa [Value.ownBlock] using he
    subst this
    exact Blk.ne_ (t := e) hh hg hne rfl

/-- What 'Next' leaves: a step as a struct. -/
def NextPost (w : World) (more : Bool) (rest : List UInt8) (pc v : Int) (en : Ending) (w' : World) : Prop :=
  ∃ A' n' c', en = .returned (.agg #[.slice A' n' c', .int .u64 pc, .int .i32 v, .bool more]) ∧ Bs w' w'.heap.size A' n' c' rest ∧ Below w.heap.size w w'

set_option maxRecDepth 100000 in
set_option maxHeartbeats 400000 in
theorem next_any (A : Option Addr) (n c : Nat) (bytes : List UInt8) (q pc v : Int) (first : Bool) (more : Bool) (rest : List UInt8) (pc2 v2 : Int) (w : World)
    (hb : Bs w w.heap.size A n c bytes) (hn : n ≤ 140737488355328) (hrest : rest.length ≤ n)
    (hzz : ∀ A' n' c' W, Bs W W.heap.size A' n' c' bytes → Calls Try.prog 31 #[.int .u32 q, .slice A' n' c', .int .u64 pc, .int .i32 v, .bool first] W (StepPost W more rest pc2 v2)) :
    Calls Try.prog 17 #[.int .u32 q, .slice A n c, .int .u64 pc, .int .i32 v, .bool first] w (NextPost w more rest pc2 v2) := by
  have b0 := (Below.refl w.heap.size w).alloc (Nat.le_refl _) (.cells #[.slice none 0 0, .int .u64 0, .int .i32 0, .bool false] 32)
  have hb0 := hb.alloc (Nat.le_refl _) (.cells #[.slice none 0 0, .int .u64 0, .int .i32 0, .bool false] 32)
  have hb1 := hb0.alloc b0.size (.cells #[] 5)
  have b1 := b0.alloc b0.size (.cells #[] 5)
  have o1 := own_empty (w.alloc (.cells #[.slice none 0 0, .int .u64 0, .int .i32 0, .bool false] 32)) 5 w.heap.size b0.size
  rw [show (w.alloc (.cells #[.slice none 0 0, .int .u64 0, .int .i32 0, .bool false] 32)).heap.size = w.heap.size + 1 by simp] at o1
  have k1 := (Blk.new w 32 #[.slice none 0 0, .int .u64 0, .int .i32 0, .bool false]).alloc (.cells #[] 5)
  have HK1 := Lib.hid k1
  clear k1
  have HB1 := Lib.hid b1
  have HZ := Lib.hid hzz
  clear hb b1 b0 hb0 hzz
  go_enter Try.func17, Try.ntmps17
  go_wp2_with (at_builtin; refine append_bytes (w0 := w) rfl _ _ rfl (l := []) rfl o1 HB1.out rfl hb1 ?c1 ?_)
  case c1 => omega
  intro A1 n1 c1 w1 hown1 hbel1 hg1
  have H := Lib.hid (HZ.out A1 n1 c1 w1 (Bs.of_own hown1))
  have HB2 := Lib.hid hbel1
  have HK2 := Lib.hid (HK1.out.grown hg1 (by simp [Value.ownBlock]))
  clear hown1 hbel1 hb1 hg1 o1
  go_wp2_with fail
  refine H.out.mono ?_
  rintro en w2 ⟨A2, n2, c2, rfl, hb2, hbel2⟩
  have hlen2 := hb2.len
  have hb3 := hb2.alloc (Nat.le_refl _) (.cells #[] 5)
  have b2 := HB2.out.trans (hbel2.mono HB2.out.size)
  have o2 := own_empty w2 5 w.heap.size b2.size
  have HB3 := Lib.hid (b2.alloc b2.size (.cells #[] 5))
  have k2 := HK2.out.below hbel2 HK2.out.lt
  have HK3 := Lib.hid (k2.alloc (.cells #[] 5))
  have hne : w.heap.size ≠ w2.heap.size := Nat.ne_of_lt k2.lt
  have hn2 : n2 ≤ 140737488355328 := by omega
  clear hb2 hbel2 b2 k2 hlen2
  go_wp2_with (at_builtin; refine append_bytes (w0 := w) rfl _ _ rfl (l := []) rfl o2 HB3.out rfl hb3 ?d1 ?_)
  case d1 => omega
  intro A3 n3 c3 w3 hown3 hbel3 hg3
  have k3 := HK3.out.grown hg3 (by simpa [Value.ownBlock] using hne)
  have hne3 := own_ne hown3 k3 (by decide)
  have HO := Lib.hid (Bs.of_own (ownsRow_setCell_other (a := ⟨w.heap.size, 3, none⟩) (ownsRow_setCell_other (a := ⟨w.heap.size, 2, none⟩) (ownsRow_setCell_other (a := ⟨w.heap.size, 1, none⟩) (ownsRow_setCell_other (a := ⟨w.heap.size, 0, none⟩) hown3 hne3 (.slice A3 n3 c3)) hne3 (.int .u64 pc2)) hne3 (.int .i32 v2)) hne3 (.bool more)))
  have HB4 := Lib.hid ((((hbel3.setCell (p := ⟨w.heap.size, 0, none⟩) (Nat.le_refl _) (.slice A3 n3 c3)).setCell (p := ⟨w.heap.size, 1, none⟩) (Nat.le_refl _) (.int .u64 pc2)).setCell (p := ⟨w.heap.size, 2, none⟩) (Nat.le_refl _) (.int .i32 v2)).setCell (p := ⟨w.heap.size, 3, none⟩) (Nat.le_refl _) (.bool more))
  have r0 := k3.set_ 0 (.slice A3 n3 c3)
  have r1 := r0.set_ 1 (.int .u64 pc2)
  have r2 := r1.set_ 2 (.int .i32 v2)
  have r3 := r2.set_ 3 (.bool more)
  have s0 := Lib.hid (show (w3.setCell ⟨w.heap.size, 0, none⟩ (.slice A3 n3 c3)).cell? ⟨w.heap.size, 0, none⟩ = some (.slice A3 n3 c3) from r0.cell 0)
  have s1 := Lib.hid (show ((w3.setCell ⟨w.heap.size, 0, none⟩ (.slice A3 n3 c3)).setCell ⟨w.heap.size, 1, none⟩ (.int .u64 pc2)).cell? ⟨w.heap.size, 1, none⟩ = some (.int .u64 pc2) from r1.cell 1)
  have s2 := Lib.hid (show (((w3.setCell ⟨w.heap.size, 0, none⟩ (.slice A3 n3 c3)).setCell ⟨w.heap.size, 1, none⟩ (.int .u64 pc2)).setCell ⟨w.heap.size, 2, none⟩ (.int .i32 v2)).cell? ⟨w.heap.size, 2, none⟩ = some (.int .i32 v2) from r2.cell 2)
  have s3 := Lib.hid (show ((((w3.setCell ⟨w.heap.size, 0, none⟩ (.slice A3 n3 c3)).setCell ⟨w.heap.size, 1, none⟩ (.int .u64 pc2)).setCell ⟨w.heap.size, 2, none⟩ (.int .i32 v2)).setCell ⟨w.heap.size, 3, none⟩ (.bool more)).cell? ⟨w.heap.size, 3, none⟩ = some (.bool more) from r3.cell 3)
  have q0 : w3.cell? ⟨w.heap.size, 0, none⟩ = some (.slice none 0 0) := k3.cell 0
  have q1 : w3.cell? ⟨w.heap.size, 1, none⟩ = some (.int .u64 0) := k3.cell 1
  have q2 : w3.cell? ⟨w.heap.size, 2, none⟩ = some (.int .i32 0) := k3.cell 2
  have q3 : w3.cell? ⟨w.heap.size, 3, none⟩ = some (.bool false) := k3.cell 3
  have f0 := k3.free 0
  have f1 := k3.free 1
  have f2 := k3.free 2
  have f3 := k3.free 3
  clear hown3 hbel3 hg3 o2 hb3 k3 hne3 r0 r1 r2 r3
  go_wp2_with fail
  refine bodyPost_ret (v := .agg #[.slice A3 n3 c3, .int .u64 pc2, .int .i32 v2, .bool more]) (by simp [results, Try.results17, go_sem, s0.out, s1.out, s2.out, s3.out]) rfl ?_
  exact ⟨A3, n3, c3, rfl, by simpa using HO.out, HB4.out⟩
end Go.Proofs.Ytfbnnbbjfjhkjaa
