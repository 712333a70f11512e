/- The walk of readvarint: it reads a group of bytes, for every group of at most 1000 bytes, and leaves what is behind it. -/
import Derived.Test.YtfbnnbbjfjhkjaaProg
import Derived.Test.YtfbnnbbjfjhkjaaMem
import Derived.Test.YtfbnnbbjfjhkjaaVal
import Derived.WalkKit
import Derived.WalkSpells
import Derived.WalkLawsBesides
import Derived.Laws.Shifts
namespace Go.Proofs.Ytfbnnbbjfjhkjaa
open Go.RowKit
/-- What 'readvarint' leaves: the number y; the cell of the slice holds what is behind the group. -/
def RvPost (w : World) (gp B y : Nat) (rest : List UInt8) (en : Ending) (w' : World) : Prop :=
  ∃ A' n' c', en = .returned (.int .u32 (y : Int)) ∧ w' = w.setCell ⟨gp, 0, none⟩ (.slice A' n' c') ∧ Bs w B A' n' c' rest

set_option maxHeartbeats 400000 in
/-- '(*LineTable).readvarint': it reads a group of bytes, whatever follows, and leaves what is behind it. -/
theorem readvarint_any (t : Option Addr) (gp B : Nat) (A : Option Addr) (n c : Nat) (e rest : List UInt8) (y0 : Nat) (w : World)
    (hp : Blk w gp 23 #[.slice A n c]) (hb : Bs w B A n c (e ++ rest)) (he : Grp e) (hl : e.length ≤ 1000) (hy0 : y0 = val e % 4294967296) :
    Calls Try.prog 35 #[.pointer t, .pointer (some ⟨gp, 0, none⟩)] w (RvPost w gp B y0 rest) := by
  have hpc := hp.cell 0
  have hpf := hp.free 0
  simp at hpc
  have HY := Lib.hid hy0
  clear hp hy0
  go_enter Try.func35, Try.ntmps35
  go_wp2
  go_loop [5, 6, 7] (fun v s p => ∃ (k y : Nat) (A' : Option Addr) (n' c' : Nat), k < e.length ∧ y = val (e.take k) % 4294967296 ∧ v = .int .u32 (y : Int) ∧ s = .int .u32 ((7 * k : Nat) : Int) ∧ p = .slice A' n' c' ∧ Bs w B A' n' c' (e.drop k ++ rest))
    (fun _ s _ => 7 * e.length - (intOf s).toNat)
  case atStart => exact ⟨0, 0, A, n, c, he.pos, rfl, rfl, rfl, rfl, hb⟩
  case round =>
    obtain ⟨k, y, A', n', c', hk, hy, rfl, rfl, rfl, hr⟩ := hrel
    have hd : e.drop k ++ rest = e[k] :: (e.drop (k + 1) ++ rest) := by rw [List.drop_eq_getElem_cons hk]; rfl
    have hor := or_step (val (e.take k)) e[k].toNat k (by have := val_lt (e.take k); rwa [List.length_take, Nat.min_eq_left (by omega)] at this)
    rw [← val_take e k hk, ← hy] at hor
    have hlast : k + 1 = e.length → e[k].toNat < 128 := fun h => he.last k h
    have hmid : k + 1 < e.length → 128 ≤ e[k].toNat := fun h => he.mid k h
    rw [hd] at hr
    clear hd hy
    generalize e[k] = b at *
    obtain ⟨z, hz⟩ : ∃ z, z = val (e.take (k + 1)) % 4294967296 := ⟨_, rfl⟩
    rw [← hz] at hor
    have hshift := round_shift b.toNat k b.toNat_lt
    have hmore := round_more b.toNat b.toNat_lt
    generalize hx : IntKind.u32.wrap (((b.toNat % 128 : Nat) : Int) * 2 ^ min (7 * k) 32) = x at *
    clear hx
    obtain ⟨g, o, rfl, hgB, rfl, hcell⟩ := hr.form
    have hcap := hr.cap
    have HZ := Lib.hid hz
    have HR := Lib.hid hr
    clear hz hr hb
    by_cases hk1 : k + 1 = e.length
    · have h128 := hlast hk1
      rw [if_pos h128] at hmore
      have HK := Lib.hid hk1
      clear hlast hmid hk1 h128
      go_wp2
      all_goals
        go_ret
        have hz : z = y0 := by rw [HZ.out, HY.out, HK.out, List.take_length]
        have hrest := HR.out
        rw [HK.out, List.drop_length, List.nil_append] at hrest
        refine ⟨_, _, _, ?_, rfl, hrest.tail ?_ ?_ ?_⟩
        · show Ending.returned (.int .u32 (z : Int)) = _
          rw [hz]
        · simp [HK.out]
        · first | rfl | omega
        · intro h1
          first | rfl | omega
    · have h128 := hmid (by omega)
      rw [if_neg (by omega)] at hmore
      clear hlast hmid
      go_wp2
      go_round
      case rel =>
        refine ⟨k + 1, z, _, _, _, by omega, HZ.out, rfl, by go_num, rfl, HR.out.tail ?_ rfl ?_⟩
        · simp
        · intro h1
          rw [if_neg (by omega)]
      case measure => simp [intOf]; omega
end Go.Proofs.Ytfbnnbbjfjhkjaa
