/- The walks of pcvalue and ZZValue: the value at a place, by a table of pairs. -/
import Derived.Test.YtfbnnbbjfjhkjaaStep
import Derived.Deep.LoopGhost
namespace Go.Proofs.Ytfbnnbbjfjhkjaa
open Go.RowKit

/-- What 'pcvalue' and the like leave: the value, and nothing that was there has turned. -/
def IsPost (w : World) (v : Value) (en : Ending) (w' : World) : Prop := en = .returned v ∧ Below w.heap.size w w'

/-- The relation of pcvalue's loop: at most k pairs are still to come. -/
def PvRel (w : World) (gt q entry target : Nat) (x : Value) (rest : List UInt8) (R : Int) (k : Nat) (wr : World) : Prop :=
  ∃ (r : List (Nat × Nat)) (pc : Nat) (v : Int) (first : Bool) (A' : Option Addr) (n' c' : Nat), r.length = k ∧ Blk wr gt 66 #[.int .u32 (q : Int), x] ∧
    Blk wr w.heap.size 23 #[.slice A' n' c'] ∧ Blk wr (w.heap.size + 1) 21 #[.int .i32 v] ∧ Blk wr (w.heap.size + 1 + 1) 30 #[.int .u64 (pc : Int)] ∧
    Bs wr w.heap.size A' n' c' (tab r ++ 0 :: rest) ∧ Fit q first pc r ∧ (first = true → pc = entry) ∧ (first = false → entry < pc) ∧ pc < 18446744073709551616 ∧ look q target pc v r = R ∧ Below w.heap.size w wr

set_option maxHeartbeats 400000 in
theorem pcvalue_any (gt : Nat) (A : Option Addr) (n c q entry target : Nat) (ahead rest : List UInt8) (r : List (Nat × Nat)) (w : World)
    (ht : Blk w gt 66 #[.int .u32 (q : Int), .slice A n c]) (hb : Bs w w.heap.size A n c (ahead ++ (tab r ++ 0 :: rest))) (hfit : Fit q true entry r)
    (ha : ahead.length < 4294967296) (he : entry < 18446744073709551616) :
    Calls Try.prog 37 #[.pointer (some ⟨gt, 0, none⟩), .int .u32 (ahead.length : Int), .int .u64 (entry : Int), .int .u64 (target : Int)] w
      (IsPost w (.int .i32 (look q target entry (-1) r))) := by
  have hn := hb.len
  have hcap := hb.cap
  simp only [List.length_append, List.length_cons] at hn
  obtain ⟨g, o, rfl, hgB, -⟩ := hb.cells (by omega)
  have ht1 : w.cell? ⟨gt, 1, none⟩ = some (.slice (some ⟨g, o, none⟩) n c) := ht.cell 1
  have hal : ahead.length < n := by omega
  obtain ⟨R, hR⟩ : ∃ R, look q target entry (-1) r = R := ⟨_, rfl⟩
  rw [hR]
  have hcut := hb.cut (k := ahead.length) (by omega) (some ⟨g, o + ahead.length, none⟩) (fun g' o' e _ => by
    injection e with e
    injection e with e1 e2
    subst e1 e2
    rfl)
  rw [List.drop_left] at hcut
  obtain ⟨n1, hn1⟩ : ∃ n1, n - ahead.length = n1 := ⟨_, rfl⟩
  obtain ⟨c1, hc1⟩ : ∃ c1, c - ahead.length = c1 := ⟨_, rfl⟩
  have hst : ∀ W, Blk W w.heap.size 23 #[.slice (some ⟨g, o + ahead.length, none⟩) (n - ahead.length) (c - ahead.length)] → Blk W (w.heap.size + 1) 21 #[.int .i32 (-1)] → Blk W (w.heap.size + 1 + 1) 30 #[.int .u64 (entry : Int)] → Below w.heap.size w W →
      PvRel w gt q entry target (.slice (some ⟨g, o, none⟩) n c) rest R r.length W := fun W k1 k2 k3 hbW =>
    ⟨r, entry, -1, true, _, _, _, rfl, ht.below hbW ht.lt, k1, k2, k3, hcut.below hbW, hfit, fun _ => rfl, fun h => by (cases h), he, hR, hbW⟩
  have b1 := (Below.refl w.heap.size w).alloc (Nat.le_refl _) (.cells #[.slice (some ⟨g, o + ahead.length, none⟩) (n - ahead.length) (c - ahead.length)] 23)
  have b2 := b1.alloc (by simp) (.cells #[.int .i32 (-1)] 21)
  have b3 := b2.alloc (by simp; omega) (.cells #[.int .u64 (entry : Int)] 30)
  have k1 := ((Blk.new w 23 #[.slice (some ⟨g, o + ahead.length, none⟩) (n - ahead.length) (c - ahead.length)]).alloc (.cells #[.int .i32 (-1)] 21)).alloc (.cells #[.int .u64 (entry : Int)] 30)
  have k2 := (Blk.new (w.alloc (.cells #[.slice (some ⟨g, o + ahead.length, none⟩) (n - ahead.length) (c - ahead.length)] 23)) 21 #[.int .i32 (-1)]).alloc (.cells #[.int .u64 (entry : Int)] 30)
  have k3 := Blk.new ((w.alloc (.cells #[.slice (some ⟨g, o + ahead.length, none⟩) (n - ahead.length) (c - ahead.length)] 23)).alloc (.cells #[.int .i32 (-1)] 21)) 30 #[.int .u64 (entry : Int)]
  rw [show (w.alloc (.cells #[.slice (some ⟨g, o + ahead.length, none⟩) (n - ahead.length) (c - ahead.length)] 23)).heap.size = w.heap.size + 1 by simp] at k2
  rw [show ((w.alloc (.cells #[.slice (some ⟨g, o + ahead.length, none⟩) (n - ahead.length) (c - ahead.length)] 23)).alloc (.cells #[.int .i32 (-1)] 21)).heap.size = w.heap.size + 1 + 1 by simp] at k3
  have HST := Lib.hid (hst _ k1 k2 k3 b3)
  clear hn ht hb hst b1 b2 b3 k1 k2 k3 hcut hn1 hc1 hR hfit
  go_enter Try.func37, Try.ntmps37
  go_wp2_with fail
  go_loopg [19] r.length (fun k _ wr => PvRel w gt q entry target (.slice (some ⟨g, o, none⟩) n c) rest R k wr)
  case atStart => exact HST.out
  case round =>
    obtain ⟨r', pc, v, first, A', n', c', hk, h1, h2, h3, h4, h5, h6, h7, h8, hlt, h9, h10⟩ := hrel
    have hpc0 : wr.cell? ⟨w.heap.size + 1 + 1, 0, none⟩ = some (.int .u64 (pc : Int)) := h4.cell 0
    have hsz := h10.size
    rcases r' with _ | ⟨x, r''⟩
    · obtain rfl : first = false := h6
      have hlt2 := h8 rfl
      obtain rfl : -1 = R := h9
      have hdec : ((pc : Int) == (entry : Int)) = false := by simp; omega
      have H := Lib.hid (step_stop gt w.heap.size (w.heap.size + 1 + 1) (w.heap.size + 1) w.heap.size A' n' c' [0] rest (pc : Int) v wr h2 h4 h3 h5 (Nat.le_refl _) grp_nought (by decide) rfl)
      have H10 := Lib.hid h10
      clear h1 h2 h3 h4 h5 h7 h8 h10 hlt hk HST
      go_wp2_with fail
      refine H.out.mono ?_
      rintro en w1 ⟨A1, n1', c1', rfl, -, -, -, -, hbel, -⟩
      have HBel := Lib.hid hbel
      clear hbel
      go_wp2_with fail
      go_ret
      exact ⟨rfl, H10.out.trans HBel.out⟩
    · obtain ⟨f1, f2, f3, f4, f5, f6, f7⟩ := h6
      have hdec : ((pc : Int) == (entry : Int)) = first := by
        cases first
        · have := h8 rfl
          simp
          omega
        · have := h7 rfl
          simp
          omega
      have e0 : tab (x :: r'') ++ 0 :: rest = Lib.uvarint x.1 ++ (Lib.uvarint x.2 ++ (tab r'' ++ 0 :: rest)) := by simp [tab]
      rw [e0] at h5
      have l1 := uvarint_short f1
      have l2 := uvarint_short f2
      have H := Lib.hid (step_more gt w.heap.size (w.heap.size + 1 + 1) (w.heap.size + 1) w.heap.size A' n' c' (Lib.uvarint x.1) (Lib.uvarint x.2) (tab r'' ++ 0 :: rest) x.1 x.2 (q : Int) ((x.2 * q : Nat) : Int) (pc : Int) v
        (.slice (some ⟨g, o, none⟩) n c) first wr h1 h2 h4 h3 h5 (Nat.le_refl _) (by omega) (by omega) (grp_uvarint _) (grp_uvarint _) (by omega) (by omega) (val_short f1) (val_short f2) f6 (by simp) (by omega) (by omega))
      have hw : IntKind.u64.wrap ((pc : Int) + ((x.2 * q : Nat) : Int)) = ((pc + x.2 * q : Nat) : Int) := by
        rw [IntKind.wrap_u64]
        omega
      rw [hw] at H
      have hpc' : entry ≤ pc := by
        cases first
        · have := h8 rfl; omega
        · have := h7 rfl; omega
      have hlk : look q target pc v (x :: r'') = if target < pc + x.2 * q then wrap32 (v + zag x.1) else look q target (pc + x.2 * q) (wrap32 (v + zag x.1)) r'' := rfl
      rw [hlk] at h9
      have hk' : r''.length < gk := by simp only [List.length_cons] at hk; omega
      have hlt1 : entry < pc + x.2 * q := by omega
      generalize pc + x.2 * q = pc1 at *
      generalize wrap32 (v + zag x.1) = v1 at *
      have H1 := Lib.hid h1
      have H10 := Lib.hid h10
      have H9 := Lib.hid h9
      have hgt := h1.ne_ h2 (by decide)
      have hgt2 := h1.ne_ h3 (by decide)
      have hgt3 := h1.ne_ h4 (by decide)
      clear h1 h2 h3 h4 h5 h7 h8 h9 h10 hlt hk HST hw hlk e0 l1 l2 f1 f2 f3 f4 f6 hpc'
      go_wp2_with fail
      refine H.out.mono ?_
      rintro en w1 ⟨A1, n1', c1', rfl, k1, k2, k3, k4, hbel, hkeep⟩
      have HBel := Lib.hid hbel
      have HK1 := Lib.hid k1
      have HK2 := Lib.hid k2
      have HK3 := Lib.hid k3
      have HK4 := Lib.hid k4
      have hpc1 : w1.cell? ⟨w.heap.size + 1 + 1, 0, none⟩ = some (.int .u64 (pc1 : Int)) := k3.cell 0
      have hv1 : w1.cell? ⟨w.heap.size + 1, 0, none⟩ = some (.int .i32 v1) := k4.cell 0
      have HKT : Hid (Blk w1 gt 66 #[.int .u32 (q : Int), .slice (some ⟨g, o, none⟩) n c]) := Lib.hid ((hkeep gt hgt hgt3 hgt2).trans H1.out)
      clear hbel k1 k2 k3 k4 hkeep
      by_cases htg : target < pc1
      · have e9 := H9.out
        rw [if_pos htg] at e9
        have E9 := Lib.hid e9
        clear e9
        go_wp2_with fail
        go_ret
        exact ⟨by rw [← E9.out]; rfl, H10.out.trans HBel.out⟩
      · have e9 := H9.out
        rw [if_neg htg] at e9
        have E9 := Lib.hid e9
        clear e9
        go_wp2_with fail
        go_roundg r''.length
        case measure => exact hk'
        case rel => exact ⟨r'', pc1, v1, false, A1, n1', c1', rfl, HKT.out, HK1.out, HK4.out, HK3.out, HK2.out, f7, (fun h => by cases h), fun _ => hlt1, f5, E9.out, H10.out.trans HBel.out⟩

set_option maxHeartbeats 400000 in
theorem zzvalue_any (A : Option Addr) (n c q entry target : Nat) (ahead rest : List UInt8) (r : List (Nat × Nat)) (w : World)
    (hb : Bs w w.heap.size A n c (ahead ++ (tab r ++ 0 :: rest))) (hfit : Fit q true entry r) (ha : ahead.length < 4294967296) (he : entry < 18446744073709551616) :
    Calls Try.prog 32 #[.slice A n c, .int .u32 (q : Int), .int .u32 (ahead.length : Int), .int .u64 (entry : Int), .int .u64 (target : Int)] w
      (IsPost w (.int .i32 (look q target entry (-1) r))) := by
  have b1 := (Below.refl w.heap.size w).alloc (Nat.le_refl _) (.cells #[.int .u32 (q : Int), .slice A n c] 66)
  have H := Lib.hid (pcvalue_any w.heap.size A n c q entry target ahead rest r _ (Blk.new w 66 #[.int .u32 (q : Int), .slice A n c]) ((hb.below b1).more (by simp)) hfit ha he)
  have HB := Lib.hid b1
  generalize look q target entry (-1) r = R at *
  clear b1 hb hfit
  go_enter Try.func32, Try.ntmps32
  go_wp2_with fail
  refine H.out.mono ?_
  rintro en w1 ⟨rfl, hbel⟩
  go_wp2_with fail
  go_ret
  exact ⟨rfl, HB.out.trans (hbel.mono (by simp))⟩
end Go.Proofs.Ytfbnnbbjfjhkjaa
