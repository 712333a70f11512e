/- The walk of Varint of the reference: the bytes of a number. -/
import Derived.Test.YtfbnnbbjfjhkjaaProg
import Derived.Test.YtfbnnbbjfjhkjaaMem
import Derived.Test.YtfbnnbbjfjhkjaaVal
import Derived.WalkKit
import Derived.WalkSpells
import Derived.WalkLawsBesides
import Derived.Deep.LoopGhost
namespace Go.Proofs.Ytfbnnbbjfjhkjaa
open Go.RowKit

theorem Try.info5 : (Try.prog.info? 5).map (fun i => (i.zero, i.size, i.bytes)) = some (some (.int .u8 0), 1, 1) := by kernel_rfl

/-- A new row of bytes is handed back; nothing that was there has turned. -/
def RowPost (w : World) (l : List UInt8) (en : Ending) (w' : World) : Prop :=
  ∃ A' c', en = .returned (.slice A' l.length c') ∧ w'.ownsRow w.heap.size 5 1 (.slice A' l.length c') l.length (Lib.byteCells l) ∧ Below w.heap.size w w'

theorem reads_lit (w : World) (cs : Array Value) (t : TypeId) : Reads (w.alloc (.cells cs t)) (w.heap.size + 1) 1 (some ⟨w.heap.size, 0, none⟩) cs.size cs.toList :=
  ⟨by simp, fun _ => ⟨w.heap.size, 0, rfl, by omega, fun j u hu => by
    rw [Nat.zero_add, (Blk.new w t cs).cell j]
    simpa using hu⟩⟩

/-- The relation of Varint's loop. -/
def ViRel (w : World) (n : Nat) (k : Nat) (vn vo : Value) (wr : World) : Prop :=
  ∃ (m : Nat) (l : List UInt8) (A : Option Addr) (c : Nat), m = k ∧ vn = .int .u32 (m : Int) ∧ m < 4294967296 ∧ vo = .slice A l.length c ∧ wr.ownsRow w.heap.size 5 1 (.slice A l.length c) l.length (Lib.byteCells l) ∧
    Lib.uvarint n = l ++ Lib.uvarint m ∧ Below w.heap.size w wr

set_option maxRecDepth 100000 in
set_option maxHeartbeats 400000 in
theorem varint_any (n : Nat) (w : World) (hn : n < 4294967296) : Calls Try.prog 15 #[.int .u32 (n : Int)] w (RowPost w (Lib.uvarint n)) := by
  obtain ⟨i0, hi0, hz0, hz1, hz2⟩ := info_parts Try.info5
  have hshort := uvarint_short hn
  go_enter Try.func15, Try.ntmps15
  go_wp2_with fail
  go_loopg [0, 3] n (fun k vn vo wr => ViRel w n k vn vo wr)
  case atStart => exact ⟨n, [], none, 0, rfl, rfl, hn, rfl, World.ownsRow_nil _ _ _ _, rfl, Below.refl _ _⟩
  case round =>
    obtain ⟨m, l, A, c, rfl, rfl, hm, rfl, hown, he, hbel⟩ := hrel
    have hsz := hbel.size
    have hll : l.length ≤ 5 := by rw [he] at hshort; simp at hshort; omega
    have HE := Lib.hid he
    have HB := Lib.hid hbel
    clear he hbel
    by_cases h128 : 128 ≤ m
    · go_wp2_with (at_builtin; refine wpList_append_reads _ rfl _ _ 23 rfl w.heap.size 5 i0 (.int .u8 0) 1 1 Try.underlying23 hi0 hz0 hz1 hz2 rfl (by decide) _ _ _ rfl (hown.alloc _) _ _ 1 1 [.int .u8 ((m : Int) % 128 + 128)] rfl (reads_lit wr #[.int .u8 ((m : Int) % 128 + 128)] 5) ?c1 ?c3 ?c4 ?c5 ?_)
      case c1 => intro u hu; simp at hu; subst hu; rfl
      case c3 => simp only [maxLen]; omega
      case c4 => omega
      case c5 => simp; omega
      intro v1 w1 hown1 hg1 _
      obtain ⟨A1, c1', rfl, -, -⟩ := own_form hown1
      have e1 : Lib.byteCells l ++ [.int .u8 ((m : Int) % 128 + 128)] = Lib.byteCells (l ++ [(m % 128 + 128).toUInt8]) := by
        have : (m % 128 + 128).toUInt8.toNat = m % 128 + 128 := by simp; omega
        rw [byteCells_append]
        simp only [Lib.byteCells, List.map_cons, List.map_nil, this]
        congr 3
      rw [e1] at hown1
      have e2 : Lib.uvarint n = (l ++ [(m % 128 + 128).toUInt8]) ++ Lib.uvarint (m / 128) := by rw [HE.out, Lib.uvarint_big h128]; simp
      have hb1 := below_append (HB.out.alloc hsz (.cells #[.int .u8 ((m : Int) % 128 + 128)] 5)) (hown.alloc _) (Nat.le_refl _) (by simp; omega) hg1
      have HR : Hid (ViRel w n (m / 128) (.int .u32 ((m / 128 : Nat) : Int)) (.slice A1 (l.length + 1) c1') w1) := Lib.hid
        ⟨m / 128, l ++ [(m % 128 + 128).toUInt8], A1, c1', rfl, rfl, by omega, by simp, by simpa using hown1, e2, hb1⟩
      clear hown1 hown e1 e2 hb1 hg1
      go_wp2_with fail
      go_roundg (m / 128)
      case measure => omega
      case rel => exact HR.out
    · go_wp2_with (at_builtin; refine wpList_append_reads _ rfl _ _ 23 rfl w.heap.size 5 i0 (.int .u8 0) 1 1 Try.underlying23 hi0 hz0 hz1 hz2 rfl (by decide) _ _ _ rfl (hown.alloc _) _ _ 1 1 [.int .u8 (m : Int)] rfl (reads_lit wr #[.int .u8 (m : Int)] 5) ?d1 ?d3 ?d4 ?d5 ?_)
      case d1 => intro u hu; simp at hu; subst hu; rfl
      case d3 => simp only [maxLen]; omega
      case d4 => omega
      case d5 => simp; omega
      intro v1 w1 hown1 hg1 _
      obtain ⟨A1, c1', rfl, -, -⟩ := own_form hown1
      have e1 : Lib.byteCells l ++ [.int .u8 (m : Int)] = Lib.byteCells (Lib.uvarint n) := by
        have : m.toUInt8.toNat = m := by simp; omega
        rw [HE.out, Lib.uvarint_small (by omega), byteCells_append]
        simp only [Lib.byteCells, List.map_cons, List.map_nil, this]
      rw [e1] at hown1
      have hb1 := below_append (HB.out.alloc hsz (.cells #[.int .u8 (m : Int)] 5)) (hown.alloc _) (Nat.le_refl _) (by simp; omega) hg1
      have HR : Hid (RowPost w (Lib.uvarint n) (.returned (.slice A1 (l.length + 1) c1')) w1) := by
        have := own_bytes hown1
        rw [this] at hown1 ⊢
        exact Lib.hid ⟨A1, c1', rfl, hown1, hb1⟩
      clear hown1 hown e1 hb1 hg1
      go_wp2_with fail
      go_ret
      exact HR.out
end Go.Proofs.Ytfbnnbbjfjhkjaa
