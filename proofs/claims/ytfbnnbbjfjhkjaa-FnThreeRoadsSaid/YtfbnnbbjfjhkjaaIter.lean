/- The walk of Next of the iterator (42). -/
import Derived.Test.YtfbnnbbjfjhkjaaDec
import Derived.Test.YtfbnnbbjfjhkjaaBuf
import Derived.Test.YtfbnnbbjfjhkjaaClos
namespace Go.Proofs.Ytfbnnbbjfjhkjaa
open Go.RowKit
set_option linter.unusedVariables false

/-- At most block g is another. -/
def Only (g : Nat) (w w' : World) : Prop := Below g w w' ∧ w'.heap.size = w.heap.size ∧ ∀ k, k ≠ g → w'.heap[k]? = w.heap[k]?
theorem Only.refl (g : Nat) (w : World) : Only g w w := ⟨Below.refl g w, rfl, fun _ _ => rfl⟩
theorem Only.set_ {g : Nat} {w w' : World} (h : Only g w w') (i : Nat) (u : Value) : Only g w (w'.setCell ⟨g, i, none⟩ u) :=
  ⟨h.1.setCell (p := ⟨g, i, none⟩) (Nat.le_refl _) u, by rw [← h.2.1]; simp [World.setCell], fun k hk => (Below.heap_setCell w' ⟨g, i, none⟩ u k hk).trans (h.2.2 k hk)⟩
theorem Only.drewN {g : Nat} {w w' : World} (h : Only g w w') (n : Nat) : Only g w (w'.drewN n) := ⟨below_drewN h.1 n, h.2.1, h.2.2⟩

/-- The iterator's cells. -/
def itCells (p : Value) (pc nx q v : Int) (st dn : Bool) : Array Value := #[p, .int .u32 pc, .int .u32 nx, .int .u32 q, .int .i32 v, .bool st, .bool dn]

/-- What Next leaves at the table's end. -/
def EndPost (g : Nat) (nx q v : Int) (w : World) (en : Ending) (w' : World) : Prop :=
  en = .returned (.tuple #[]) ∧ ∃ p, Blk w' g 94 (itCells p nx nx q v false true) ∧ Only g w w'

set_option maxRecDepth 100000 in
set_option maxHeartbeats 4000000 in
theorem iter_end (g n c H : Nat) (A : Option Addr) (pc nx q v : Int) (w : World)
    (hg : Blk w g 94 (itCells (.slice A n c) pc nx q v false false)) (hb : Bs w H A n c [0]) (hH : H ≤ g) :
    Calls Try.prog 42 #[.pointer (some ⟨g, 0, none⟩)] w (EndPost g nx q v w) := by
  obtain ⟨gb, o, rfl, hgb, hn1, hc0⟩ := hb.form
  simp only [List.length_nil, Nat.zero_add] at hn1
  subst hn1
  have hcap := hb.cap
  have hbig := hb.big
  unfold maxLen at hbig
  have h0 : w.cell? ⟨g, 0, none⟩ = some (.slice (some ⟨gb, o, none⟩) 1 c) := hg.cell 0
  have h1 : w.cell? ⟨g, 1, none⟩ = some (.int .u32 pc) := hg.cell 1
  have h2 : w.cell? ⟨g, 2, none⟩ = some (.int .u32 nx) := hg.cell 2
  have h5 : w.cell? ⟨g, 5, none⟩ = some (.bool false) := hg.cell 5
  have h6 : w.cell? ⟨g, 6, none⟩ = some (.bool false) := hg.cell 6
  have f0 : w.frozen? ⟨g, 0, none⟩ = false := hg.free 0
  have f1 : w.frozen? ⟨g, 1, none⟩ = false := hg.free 1
  have f6 : w.frozen? ⟨g, 6, none⟩ = false := hg.free 6
  have HV : Hid (∀ u, Calls Try.prog 46 #[.slice (some ⟨gb, o, none⟩) 1 c] (w.setCell ⟨g, 1, none⟩ u) fun e w' => e = .returned (.tuple #[.int .i64 0, .int .i64 1]) ∧ w' = w.setCell ⟨g, 1, none⟩ u) := Lib.hid fun u => by
    have hb1 := hb.setCell (p := ⟨g, 1, none⟩) hH u
    obtain ⟨gb', o', e, _, hcells⟩ := hb1.cells (by omega)
    injection e with e
    injection e with e1 e2
    subst e1 e2
    have := Try.binary_Varint gb o 1 c [0] _ rfl hcells
    rw [dec_end []] at this
    exact this
  have HG := Lib.hid hg
  have HB := Lib.hid hb
  clear hg hb hc0
  go_enter Try.func42, Try.ntmps42
  go_wp2_with fail
  refine (HV.out _).mono ?_
  rintro en w1 ⟨rfl, rfl⟩
  go_wp2_with fail
  all_goals
    (try simp only [Exit.inBlock, Exit.then]); refine bodyPost_ret (results_none rfl _ _ _) rfl ?_
    exact ⟨rfl, _, ((HG.out.set_ 1 _).set_ 0 (.slice _ _ _)).set_ 6 _, (((Only.refl g w).set_ 1 _).set_ 0 _).set_ 6 _⟩

theorem Bs.front {w : World} {H n c : Nat} {A : Option Addr} {b r : List UInt8} (h : Bs w H A n c (b ++ r)) (hp : 0 < b.length) : ∃ g o, A = some ⟨g, o, none⟩ ∧ g < H ∧ n = b.length + r.length ∧ Bs w H (some ⟨g, o + b.length, none⟩) (n - b.length) (c - b.length) r := by
  have hl := h.len
  rw [List.length_append] at hl
  obtain ⟨g, o, rfl, hg, _⟩ := h.cells (by omega)
  refine ⟨g, o, rfl, hg, by omega, ?_⟩
  have := h.cut (k := b.length) (by omega) (some ⟨g, o + b.length, none⟩) (fun g' o' e _ => by
    injection e with e
    injection e with e1 e2
    subst e1 e2
    rfl)
  rw [List.drop_left] at this
  exact this
theorem rd_varint (z H n c g o : Nat) (r : List UInt8) (w : World) (hz : z < 4294967296) (hb : Bs w H (some ⟨g, o, none⟩) n c (Lib.uvarint z ++ r)) :
    Calls Try.prog 46 #[.slice (some ⟨g, o, none⟩) n c] w fun e w' => e = .returned (.tuple #[.int .i64 (zag z), .int .i64 (Lib.uvarint z).length]) ∧ w' = w := by
  have hl := hb.len
  have hp := uvarint_pos z
  obtain ⟨g', o', e, _, hcells⟩ := hb.cells (by rw [← hl, List.length_append]; omega)
  injection e with e
  injection e with e1 e2
  subst e1 e2
  have := Try.binary_Varint g o n c _ w hl hcells
  rw [dec_varint hz] at this
  exact this
theorem rd_uvarint (z H n c g o : Nat) (r : List UInt8) (w : World) (hz : z < 4294967296) (hb : Bs w H (some ⟨g, o, none⟩) n c (Lib.uvarint z ++ r)) :
    Calls Try.prog 47 #[.slice (some ⟨g, o, none⟩) n c] w fun e w' => e = .returned (.tuple #[.int .u64 z, .int .i64 (Lib.uvarint z).length]) ∧ w' = w := by
  have hl := hb.len
  have hp := uvarint_pos z
  obtain ⟨g', o', e, _, hcells⟩ := hb.cells (by rw [← hl, List.length_append]; omega)
  injection e with e
  injection e with e1 e2
  subst e1 e2
  have := Try.binary_Uvarint g o n c _ w hl hcells
  rw [dec_uvarint hz] at this
  exact this

theorem Only.drew {g : Nat} {w w' : World} (h : Only g w w') : Only g w w'.drew := ⟨⟨h.1.os, h.1.tape, h.1.output, h.1.size, h.1.block⟩, h.2.1, h.2.2⟩
theorem next_pc {nx m q : Nat} (hm : m < 4294967296) (hnx : nx + m * q < 4294967296) : IntKind.u32.wrap ((nx : Int) + IntKind.u32.wrap (IntKind.u32.wrap (m : Int) * (q : Int))) = ((nx + m * q : Nat) : Int) := by
  have e : ((m * q : Nat) : Int) = (m : Int) * (q : Int) := by simp
  simp only [IntKind.wrap_u32]
  rw [Int.emod_eq_of_lt (a := (m : Int)) (by omega) (by omega), ← e]
  omega
theorem Only.bs {g H n c : Nat} {A : Option Addr} {l : List UInt8} {w w' : World} (h : Only g w w') (hb : Bs w H A n c l) (hH : H ≤ g) : Bs w' H A n c l := hb.below (h.1.mono hH)

/-- What Next leaves where there is a further pair. -/
def ItPost (g H : Nat) (nx q m : Nat) (v : Int) (rest : List UInt8) (w : World) (en : Ending) (w' : World) : Prop :=
  en = .returned (.tuple #[]) ∧ ∃ A n c, Blk w' g 94 (itCells (.slice A n c) nx ((nx + m * q : Nat) : Int) q v false false) ∧ Bs w' H A n c rest ∧ Only g w w'

set_option maxRecDepth 100000 in
set_option maxHeartbeats 4000000 in
theorem iter_more (g n c H nx q z m : Nat) (A : Option Addr) (pc v : Int) (st : Bool) (rest : List UInt8) (w : World)
    (hg : Blk w g 94 (itCells (.slice A n c) pc nx q v st false)) (hb : Bs w H A n c (Lib.uvarint z ++ (Lib.uvarint m ++ rest))) (hH : H ≤ g) (hr : 0 < rest.length)
    (hz : z < 4294967296) (hm : m < 4294967296) (hst : st = true ∨ z ≠ 0) (hnx : nx + m * q < 4294967296) (hq : q < 4294967296) (hv : -2147483648 ≤ v ∧ v ≤ 2147483647) :
    Calls Try.prog 42 #[.pointer (some ⟨g, 0, none⟩)] w (ItPost g H nx q m (wrap32 (v + zag z)) rest w) := by
  have hlen := hb.len
  obtain ⟨gb, o, rfl, hgb, hn1, hb2⟩ := hb.front (uvarint_pos z)
  obtain ⟨gb', o', e, _, hn2, hb3⟩ := hb2.front (uvarint_pos m)
  injection e with e
  injection e with e1 e2
  subst e1 e2
  rw [List.length_append] at hn1
  have hcap := hb.cap
  have hbig := hb.big
  unfold maxLen at hbig
  have h0 : w.cell? ⟨g, 0, none⟩ = some (.slice (some ⟨gb, o, none⟩) n c) := hg.cell 0
  have h1 : w.cell? ⟨g, 1, none⟩ = some (.int .u32 pc) := hg.cell 1
  have h2 : w.cell? ⟨g, 2, none⟩ = some (.int .u32 nx) := hg.cell 2
  have h3 : w.cell? ⟨g, 3, none⟩ = some (.int .u32 q) := hg.cell 3
  have h4 : w.cell? ⟨g, 4, none⟩ = some (.int .i32 v) := hg.cell 4
  have h5 : w.cell? ⟨g, 5, none⟩ = some (.bool st) := hg.cell 5
  have h6 : w.cell? ⟨g, 6, none⟩ = some (.bool false) := hg.cell 6
  have f0 : w.frozen? ⟨g, 0, none⟩ = false := hg.free 0
  have f1 : w.frozen? ⟨g, 1, none⟩ = false := hg.free 1
  have f2 : w.frozen? ⟨g, 2, none⟩ = false := hg.free 2
  have f4 : w.frozen? ⟨g, 4, none⟩ = false := hg.free 4
  have f5 : w.frozen? ⟨g, 5, none⟩ = false := hg.free 5
  have HV1 : Hid (∀ W, Only g w W → Calls Try.prog 46 #[.slice (some ⟨gb, o, none⟩) n c] W fun e w' => e = .returned (.tuple #[.int .i64 (zag z), .int .i64 (Lib.uvarint z).length]) ∧ w' = W) :=
    Lib.hid fun W hW => rd_varint z H n c gb o _ W hz (hW.bs hb hH)
  have HV2 : Hid (∀ W, Only g w W → Calls Try.prog 47 #[.slice (some ⟨gb, o + (Lib.uvarint z).length, none⟩) (n - (Lib.uvarint z).length) (c - (Lib.uvarint z).length)] W fun e w' => e = .returned (.tuple #[.int .u64 m, .int .i64 (Lib.uvarint m).length]) ∧ w' = W) :=
    Lib.hid fun W hW => rd_uvarint m H _ _ gb _ _ W hm (hW.bs hb2 hH)
  have HG := Lib.hid hg
  have HB3 := Lib.hid hb3
  have hp1 := uvarint_pos z
  have hp2 := uvarint_pos m
  have hs1 := uvarint_short hz
  have hs2 := uvarint_short hm
  have hzb := zag_bounds hz
  obtain ⟨hzb1, hzb2⟩ := hzb
  obtain ⟨hv1, hv2⟩ := hv
  have hmq : m * q < 4294967296 := by omega
  have hzz : (st = true ∧ (zag z == 0) = true) ∨ (zag z == 0) = false := by
    by_cases hz0 : zag z = 0
    · refine .inl ⟨hst.resolve_right fun h => zag_nz h hz0, by simpa using hz0⟩
    · exact .inr (by simpa using hz0)
  clear hg hb hb2 hb3 hst hlen hz
  generalize (Lib.uvarint z).length = k1 at *
  generalize (Lib.uvarint m).length = k2 at *
  generalize zag z = d at *
  have hk1 : ¬ k1 = c := by omega
  have hk2 : ¬ k2 = c - k1 := by omega
  have hl1 : k1 < n := by omega
  have hl2 : k2 < n - k1 := by omega
  have hne1 : ¬ k1 = 0 := by omega
  have hne2 : ¬ k2 = 0 := by omega
  have hle1 : decide ((k1 : Int) ≤ 0) = false := by simp; omega
  have hle2 : decide ((k2 : Int) ≤ 0) = false := by simp; omega
  clear hn1 hn2
  have hmqi : (m : Int) * (q : Int) = ((m * q : Nat) : Int) := by simp
  have HNP := Lib.hid (next_pc hm hnx)
  rcases hzz with ⟨rfl, hd⟩ | hd
  all_goals
    go_enter Try.func42, Try.ntmps42
    go_wp2_with fail
    refine (HV1.out _ ((Only.refl g w).set_ 1 _)).mono ?_
    rintro en w1 ⟨rfl, rfl⟩
    go_wp2_with fail
    refine (HV2.out _ (((((Only.refl g w).set_ 1 _).set_ 0 _).set_ 5 _).set_ 4 _)).mono ?_
    rintro en w1 ⟨rfl, rfl⟩
    go_wp2_with fail
    have kB : Blk (((((w.setCell ⟨g, 1, none⟩ (.int .u32 nx)).setCell ⟨g, 0, none⟩ (.slice (some ⟨gb, o + k1, none⟩) (n - k1) (c - k1))).setCell ⟨g, 5, none⟩ (.bool false)).setCell ⟨g, 4, none⟩ (.int .i32 (wrap32 (v + d)))).setCell ⟨g, 0, none⟩ (.slice (some ⟨gb, o + k1 + k2, none⟩) (n - k1 - k2) (c - k1 - k2))) g 94
      (itCells (.slice (some ⟨gb, o + k1 + k2, none⟩) (n - k1 - k2) (c - k1 - k2)) nx nx q (wrap32 (v + d)) false false) := ((((HG.out.set_ 1 _).set_ 0 _).set_ 5 _).set_ 4 _).set_ 0 _
    have kO : Only g w (((((w.setCell ⟨g, 1, none⟩ (.int .u32 nx)).setCell ⟨g, 0, none⟩ (.slice (some ⟨gb, o + k1, none⟩) (n - k1) (c - k1))).setCell ⟨g, 5, none⟩ (.bool false)).setCell ⟨g, 4, none⟩ (.int .i32 (wrap32 (v + d)))).setCell ⟨g, 0, none⟩ (.slice (some ⟨gb, o + k1 + k2, none⟩) (n - k1 - k2) (c - k1 - k2))) := (((((Only.refl g w).set_ 1 _).set_ 0 _).set_ 5 _).set_ 4 _).set_ 0 _
    generalize (((((w.setCell ⟨g, 1, none⟩ (.int .u32 nx)).setCell ⟨g, 0, none⟩ (.slice (some ⟨gb, o + k1, none⟩) (n - k1) (c - k1))).setCell ⟨g, 5, none⟩ (.bool false)).setCell ⟨g, 4, none⟩ (.int .i32 (wrap32 (v + d)))).setCell ⟨g, 0, none⟩ (.slice (some ⟨gb, o + k1 + k2, none⟩) (n - k1 - k2) (c - k1 - k2))) = W at *
    have r1 : W.cell? ⟨g, 1, none⟩ = some (.int .u32 nx) := kB.cell 1
    have r2 : W.cell? ⟨g, 2, none⟩ = some (.int .u32 nx) := kB.cell 2
    have r3 : W.cell? ⟨g, 3, none⟩ = some (.int .u32 q) := kB.cell 3
    have rf : W.frozen? ⟨g, 2, none⟩ = false := kB.free 2
    have KB := Lib.hid kB
    have KO := Lib.hid kO
    clear kB kO h0 h1 h2 h3 h4 h5 h6 f0 f1 f2 f4 f5
    go_region
    all_goals
      (try simp only [Exit.inBlock, Exit.then])
      refine bodyPost_end (results_none rfl _ _ _) rfl ?_
      rw [HNP.out]
      exact ⟨rfl, _, _, _, (KB.out.set_ 2 _).drew, ((KO.out.set_ 2 _).drew).bs HB3.out hH, (KO.out.set_ 2 _).drew⟩
end Go.Proofs.Ytfbnnbbjfjhkjaa
