/- The walk of Padded of the reference: groups of noughts behind a number. -/
import Derived.Test.YtfbnnbbjfjhkjaaStr
namespace Go.Proofs.Ytfbnnbbjfjhkjaa
open Go.RowKit

/-- A literal of bytes. -/
theorem bs_lit (w : World) (l : List UInt8) (h : l.length ≤ maxLen) (cs : Array Value) (hcs : cs = (Lib.byteCells l).toArray) : Bs (w.alloc (.cells cs 5)) (w.heap.size + 1) (some ⟨w.heap.size, 0, none⟩) l.length l.length l := by
  subst hcs
  have hr := reads_lit w (Lib.byteCells l).toArray 5
  have e : (Lib.byteCells l).toArray.size = l.length := by simp [Lib.byteCells]
  rw [e] at hr
  exact .of_reads hr (Nat.le_refl _) h

theorem byteCells_set {l : List UInt8} (h : 0 < l.length) (b : UInt8) : (Lib.byteCells l).set (l.length - 1) (.int .u8 (b.toNat : Int)) = Lib.byteCells (l.dropLast ++ [b]) := by
  have e := snoc_of h
  generalize lastB l = x at e
  generalize l.dropLast = r at *
  subst e
  simp [Lib.byteCells]

/-- The relation of Padded's loop. -/
def PdRel (w : World) (n m : Nat) (k : Nat) (vm vo : Value) (wr : World) : Prop :=
  ∃ (d : Nat) (A : Option Addr) (n' c : Nat), d + k = m ∧ vm = .int .i64 (k : Int) ∧ vo = .slice A n' c ∧ wr.ownsRow w.heap.size 5 1 (.slice A n' c) n' (Lib.byteCells (pads (Lib.uvarint n) d)) ∧ Below w.heap.size w wr

set_option maxRecDepth 100000 in
set_option maxHeartbeats 400000 in
theorem padded_any (n m : Nat) (w : World) (hn : n < 4294967296) (hm : m ≤ 100) : Calls Try.prog 16 #[.int .u32 (n : Int), .int .i64 (m : Int)] w (RowPost w (pads (Lib.uvarint n) m)) := by
  have H15 := Lib.hid (varint_any n w hn)
  have HS := uvarint_short hn
  have HN := Lib.hid hn
  clear hn
  go_enter Try.func16, Try.ntmps16
  go_wp2_with fail
  refine H15.out.mono ?_
  rintro en w1 ⟨A1, c1, rfl, hown1, hbel1⟩
  have H0 : Hid (PdRel w n m m (.int .i64 (m : Int)) (.slice A1 (Lib.uvarint n).length c1) w1) := Lib.hid ⟨0, A1, _, c1, by omega, rfl, rfl, hown1, hbel1⟩
  clear hown1 hbel1
  go_wp2_with fail
  go_loopg [1, 5] m (fun k vm vo wr => PdRel w n m k vm vo wr)
  case atStart => exact H0.out
  case round =>
    obtain ⟨d, A, n', c, hd, rfl, rfl, hown, hbel⟩ := hrel
    have hl := own_bytes hown
    have hg := grp_pads (grp_uvarint n) d
    rw [pads_length (grp_uvarint n)] at hl
    have hp := hg.pos
    have hlt := lastB_lt hg
    have h128 := lastB_128 hg
    have hset := byteCells_set hp (lastB (pads (Lib.uvarint n) d) + 128)
    have hpl := pads_length (grp_uvarint n) d
    obtain ⟨g, cap, hv, hgB, hglt⟩ := hown.form (by omega)
    obtain rfl : A = some ⟨g, 0, none⟩ := by injection hv
    cases gk with
    | zero =>
      obtain rfl : d = m := by omega
      have hn' : n' = (pads (Lib.uvarint n) d).length := by omega
      have HR : Hid (RowPost w (pads (Lib.uvarint n) d) (.returned (.slice (some ⟨g, 0, none⟩) n' c)) wr) := by
        rw [hn'] at hown ⊢
        exact Lib.hid ⟨_, c, rfl, hown, hbel⟩
      clear hset hpl hv hl hp hlt h128 hown hbel hn' hg
      go_wp2_with fail
      go_ret
      exact HR.out
    | succ k =>
      obtain ⟨n1, rfl⟩ : ∃ n1, n' = n1 + 1 := ⟨n' - 1, by omega⟩
      have hcell : wr.cell? ⟨g, n1, none⟩ = some (.int .u8 ((lastB (pads (Lib.uvarint n) d)).toNat : Int)) := by
        rw [hown.cellAt n1 (by omega), lastB_get hp]
        simp only [Lib.byteCells, List.getElem?_map]
        rw [List.getElem?_eq_getElem (by omega)]
        simp only [Option.map_some]
        congr 3
        simp only [show (pads (Lib.uvarint n) d).length - 1 = n1 by omega]
      have hfree := hown.frozenAt n1
      obtain ⟨hst, hgr⟩ := hown.stored n1 (.int .u8 ((lastB (pads (Lib.uvarint n) d) + 128).toNat : Int))
      rw [show n1 = (pads (Lib.uvarint n) d).length - 1 by omega, hset, ← show n1 = (pads (Lib.uvarint n) d).length - 1 by omega] at hst
      have e2 : (pads (Lib.uvarint n) d).dropLast ++ [lastB (pads (Lib.uvarint n) d) + 128, 0] = pads (Lib.uvarint n) (d + 1) := rfl
      rw [h128] at hst
      generalize lastB (pads (Lib.uvarint n) d) = b at *
      generalize (pads (Lib.uvarint n) d).dropLast = l at *
      have hst' : (wr.setCell ⟨g, n1, none⟩ (.int .u8 ((b.toNat : Int) + 128))).ownsRow w.heap.size 5 1 (.slice (some ⟨g, 0, none⟩) (n1 + 1) c) (n1 + 1) (Lib.byteCells (l ++ [b + 128])) := by simpa using hst
      have HO := Lib.hid (hst'.alloc (.cells #[.int .u8 0] 5))
      have hbs := hbel.setCell (p := ⟨g, n1, none⟩) hgB (.int .u8 ((b.toNat : Int) + 128))
      have HB := Lib.hid (hbs.alloc hbs.size (.cells #[.int .u8 0] 5))
      have hlit := bs_lit (wr.setCell ⟨g, n1, none⟩ (.int .u8 ((b.toNat : Int) + 128))) [0] (by decide) #[.int .u8 0] rfl
      have hsz : (wr.setCell ⟨g, n1, none⟩ (.int .u8 ((b.toNat : Int) + 128))).heap.size = wr.heap.size := by simp [World.setCell]
      rw [hsz] at hlit
      have E2 := Lib.hid e2
      have hn1 : n1 ≤ 200 := by omega
      have hk1 : k ≤ 200 := by omega
      have HD := Lib.hid hd
      clear hst hst' hbs hsz hgr hown hbel hg hp hpl hv h128 hset e2 H0 H15 hl hd
      go_wp2_with (at_builtin; refine append_bytes (w0 := w) rfl _ _ rfl rfl HO.out HB.out rfl hlit ?c1 ?_)
      case c1 => simp; omega
      intro A3 n3 c3 w3 hown3 hbel3 _
      rw [E2.out] at hown3
      have HR : Hid (PdRel w n m k (.int .i64 (k : Int)) (.slice A3 n3 c3) w3) := Lib.hid ⟨d + 1, A3, n3, c3, by have := HD.out; omega, rfl, rfl, hown3, hbel3⟩
      clear hown3 hbel3 hlit
      go_wp2_with fail
      go_roundg k
      case measure => omega
      case rel => exact HR.out
end Go.Proofs.Ytfbnnbbjfjhkjaa
