/- Plain facts on numbers in groups of seven bits: what a group of bytes spells, that the kit's varint is such a group, zig-zag. No program is named here. -/
import Derived.Lib.Varint
import Derived.Lib.EndianBits
import Derived.Lib.VarintBits
import Derived.Laws.Shifts
import Derived.Laws.BitsAllLaws
import Derived.RowKit
namespace Go.Proofs.Ytfbnnbbjfjhkjaa
open Go.RowKit

/-- What seven bits a byte spell, the least first. -/
def val : List UInt8 → Nat
  | [] => 0
  | b :: r => b.toNat % 128 + 128 * val r

/-- A group: every byte but the last bears the bit 128, the last does not. -/
structure Grp (e : List UInt8) : Prop where
  pos : 0 < e.length
  mid : ∀ k (h : k + 1 < e.length), 128 ≤ (e[k]'(by omega)).toNat
  last : ∀ k (h : k + 1 = e.length), (e[k]'(by omega)).toNat < 128

theorem val_lt : ∀ e : List UInt8, val e < 2 ^ (7 * e.length)
  | [] => by simp [val]
  | b :: r => by
    have ih := val_lt r
    have e : 2 ^ (7 * (b :: r).length) = 128 * 2 ^ (7 * r.length) := by
      rw [List.length_cons, Nat.mul_add, Nat.pow_add, Nat.mul_comm]
    rw [e, val]
    omega

theorem val_snoc : ∀ (e : List UInt8) (b : UInt8), val (e ++ [b]) = val e + b.toNat % 128 * 2 ^ (7 * e.length)
  | [], b => by simp [val]
  | a :: r, b => by
    have ih := val_snoc r b
    have e : 2 ^ (7 * (a :: r).length) = 128 * 2 ^ (7 * r.length) := by
      rw [List.length_cons, Nat.mul_add, Nat.pow_add, Nat.mul_comm]
    rw [List.cons_append, val, ih, val, e, Nat.mul_add, Nat.add_assoc]
    congr 2
    rw [Nat.mul_left_comm]

theorem val_take (e : List UInt8) (k : Nat) (hk : k < e.length) : val (e.take (k + 1)) = val (e.take k) + e[k].toNat % 128 * 2 ^ (7 * k) := by
  rw [List.take_succ_eq_append_getElem hk, val_snoc, List.length_take, Nat.min_eq_left (by omega)]

/-- 'v |= (b & 127) << (7 k)' on a uint32, whatever k. -/
theorem or_step (y b k : Nat) (hy : y < 2 ^ (7 * k)) :
    bits .or .u32 ((y % 4294967296 : Nat) : Int) (IntKind.u32.wrap (((b % 128 : Nat) : Int) * 2 ^ min (7 * k) 32)) = (((y + b % 128 * 2 ^ (7 * k)) % 4294967296 : Nat) : Int) := by
  by_cases hk : 7 * k < 32
  · rw [Nat.min_eq_left (by omega)]
    have hp : (2 : Nat) ^ (7 * k) ≤ 2 ^ 32 := Nat.pow_le_pow_right (by decide) (by omega)
    have e32 : (2 : Nat) ^ 32 = 4294967296 := by decide
    have hy' : y % 4294967296 = y := Nat.mod_eq_of_lt (by omega)
    have hd : 2 ^ (7 * k) ∣ 4294967296 := by rw [← e32]; exact Nat.pow_dvd_pow 2 (by omega)
    have hw : IntKind.u32.wrap (((b % 128 : Nat) : Int) * 2 ^ (7 * k)) = ((b % 128 * 2 ^ (7 * k) % 4294967296 : Nat) : Int) := by
      rw [IntKind.wrap_u32]
      have e2 : (2 : Int) ^ (7 * k) = ((2 ^ (7 * k) : Nat) : Int) := by simp
      rw [e2, ← Int.natCast_mul]
      rfl
    have hm : (b % 128 * 2 ^ (7 * k) % 4294967296) % 2 ^ (7 * k) = 0 := by
      rw [Nat.mod_mod_of_dvd _ hd, Nat.mul_mod_left]
    have hx : b % 128 * 2 ^ (7 * k) % 4294967296 < 4294967296 := Nat.mod_lt _ (by decide)
    rw [hw, hy']
    have hj := bits_join_low .u32 32 (by decide) wraps_u32 (7 * k) (y : Int) ((b % 128 * 2 ^ (7 * k) % 4294967296 : Nat) : Int) (by omega) (by
        have : ((y : Nat) : Int) < ((2 ^ (7 * k) : Nat) : Int) := by omega
        simpa using this) (by omega) (by omega) (by
        have : (((b % 128 * 2 ^ (7 * k) % 4294967296) % 2 ^ (7 * k) : Nat) : Int) = 0 := by rw [hm]; rfl
        simpa using this) (by
        have : ((b % 128 * 2 ^ (7 * k) % 4294967296 : Nat) : Int) < 4294967296 := by omega
        simpa using this)
    rw [hj]
    obtain ⟨q, hq⟩ := Nat.dvd_of_mod_eq_zero hm
    obtain ⟨t, ht⟩ := hd
    have hsum : y + b % 128 * 2 ^ (7 * k) % 4294967296 < 4294967296 := by
      have hq2 : q < t := by
        rw [hq] at hx
        have h3 : 2 ^ (7 * k) * q < 2 ^ (7 * k) * t := by omega
        exact Nat.lt_of_mul_lt_mul_left h3
      have h4 : 2 ^ (7 * k) * (q + 1) ≤ 2 ^ (7 * k) * t := Nat.mul_le_mul_left _ hq2
      rw [Nat.mul_add, Nat.mul_one] at h4
      omega
    have : (y + b % 128 * 2 ^ (7 * k)) % 4294967296 = y + b % 128 * 2 ^ (7 * k) % 4294967296 := by
      rw [Nat.add_mod, hy']
      exact Nat.mod_eq_of_lt hsum
    rw [this]
    simp
  · rw [Nat.min_eq_right (by omega)]
    have hx : IntKind.u32.wrap (((b % 128 : Nat) : Int) * 2 ^ 32) = 0 := by
      rw [IntKind.wrap_u32]
      omega
    rw [hx]
    have h0 := (bits_nat .u32 32 (by decide) wraps_u32 (y % 4294967296) 0 (Nat.mod_lt _ (by decide)) (by decide)).2
    have h0' : bits .or .u32 ((y % 4294967296 : Nat) : Int) 0 = ((y % 4294967296 : Nat) : Int) := by simpa using h0
    rw [h0']
    congr 1
    have hd : 4294967296 ∣ b % 128 * 2 ^ (7 * k) := by
      have e32 : (2 : Nat) ^ 32 = 4294967296 := by decide
      rw [← e32]
      exact Nat.dvd_trans (Nat.pow_dvd_pow 2 (by omega)) (Nat.dvd_mul_left _ _)
    rw [Nat.add_mod, Nat.mod_eq_zero_of_dvd hd, Nat.add_zero, Nat.mod_mod]

/-- The round of the reader, in the walk's own forms: the shift's run, and the sum. -/
theorem round_shift (b k : Nat) (hb : b < 256) :
    Op.shift .shl .u32 (bits .and .u32 ((b : Int) % 4294967296) 127) .u32 (7 * (k : Int)) = pure (.int .u32 (IntKind.u32.wrap (((b % 128 : Nat) : Int) * 2 ^ min (7 * k) 32))) := by
  rw [shift_shl_any _ _ _ _ (by omega)]
  have e1 : ((b : Int) % 4294967296) = (b : Int) := by omega
  have e2 : bits .and .u32 (b : Int) 127 = ((b % 128 : Nat) : Int) := by
    have := bits_mask .u32 32 (by decide) wraps_u32 7 (by decide) (b : Int) (by omega) (by omega)
    have e3 : ((2 : Int) ^ 7 - 1) = 127 := by decide
    have e4 : ((2 : Int) ^ 7) = 128 := by decide
    rw [e3, e4] at this
    rw [this]
    omega
  have e5 : (7 * (k : Int)).toNat = 7 * k := by omega
  rw [e1, e2, e5]
  rfl
set_option maxRecDepth 100000 in
theorem and128 : ∀ a : Fin 256, (a.val &&& 128) = if a.val < 128 then 0 else 128 := by decide
theorem round_more (b : Nat) (hb : b < 256) : bits .and .u8 (b : Int) 128 = if b < 128 then 0 else 128 := by
  have h1 := (bits_nat .u8 8 (by decide) wraps_u8 b 128 (by simpa using hb) (by decide)).1
  have e : ((128 : Nat) : Int) = 128 := rfl
  rw [e] at h1
  have h2 : b &&& 128 = if b < 128 then 0 else 128 := and128 ⟨b, hb⟩
  rw [h1, h2]
  split <;> rfl

/-! ### The kit's varint is such a group -/
theorem grp_one {b : UInt8} (h : b.toNat < 128) : Grp [b] :=
  ⟨by simp, fun k hk => by simp at hk, fun k hk => by
    have : k = 0 := by simpa using hk
    subst this
    exact h⟩
theorem grp_cons {b : UInt8} {e : List UInt8} (h : 128 ≤ b.toNat) (he : Grp e) : Grp (b :: e) :=
  ⟨by simp, fun k hk => by
      cases k with
      | zero => exact h
      | succ k => exact he.mid k (by simpa using hk),
    fun k hk => by
      cases k with
      | zero => have := he.pos; simp only [List.length_cons] at hk; omega
      | succ k => exact he.last k (by simpa using hk)⟩

theorem grp_uvarint (n : Nat) : Grp (Lib.uvarint n) := by
  induction n using Nat.strongRecOn with
  | _ n ih =>
    by_cases h : n < 128
    · rw [Lib.uvarint_small h]
      exact grp_one (by simp; omega)
    · rw [Lib.uvarint_big (by omega)]
      refine grp_cons ?_ (ih _ (by omega))
      have : (n % 128 + 128).toUInt8.toNat = n % 128 + 128 := by simp; omega
      omega

theorem val_uvarint (n : Nat) : val (Lib.uvarint n) = n := by
  induction n using Nat.strongRecOn with
  | _ n ih =>
    by_cases h : n < 128
    · rw [Lib.uvarint_small h, val, val]
      simp
      omega
    · rw [Lib.uvarint_big (by omega), val, ih _ (by omega)]
      have : (n % 128 + 128).toUInt8.toNat = n % 128 + 128 := by simp; omega
      rw [this]
      omega

/-! ### Groups of noughts behind a group -/
/-- The last byte. -/
def lastB (e : List UInt8) : UInt8 := e.getLast?.getD 0
/-- The bit 128 set in the last byte, and a nought behind it. -/
def padOne (e : List UInt8) : List UInt8 := e.dropLast ++ [lastB e + 128, 0]
def pads (e : List UInt8) : Nat → List UInt8
  | 0 => e
  | m + 1 => padOne (pads e m)

theorem padOne_length {e : List UInt8} (h : 0 < e.length) : (padOne e).length = e.length + 1 := by
  simp [padOne]
  omega

theorem lastB_get {e : List UInt8} (h : 0 < e.length) : lastB e = e[e.length - 1]'(by omega) := by
  unfold lastB
  rw [List.getLast?_eq_getElem?, List.getElem?_eq_getElem (by omega)]
  rfl

theorem snoc_of {e : List UInt8} (h : 0 < e.length) : e = e.dropLast ++ [lastB e] := by
  have hn : e ≠ [] := List.ne_nil_of_length_pos h
  rw [lastB_get h, ← List.getLast_eq_getElem hn, List.dropLast_concat_getLast]

theorem lastB_lt {e : List UInt8} (he : Grp e) : (lastB e).toNat < 128 := by
  have hp := he.pos
  rw [lastB_get hp]
  exact he.last (e.length - 1) (by omega)

theorem lastB_128 {e : List UInt8} (he : Grp e) : (lastB e + 128).toNat = (lastB e).toNat + 128 := by
  have hl := lastB_lt he
  rw [UInt8.toNat_add]
  have : (128 : UInt8).toNat = 128 := rfl
  rw [this]
  omega

theorem grp_padOne {e : List UInt8} (he : Grp e) : Grp (padOne e) := by
  have hp := he.pos
  have hlen := padOne_length hp
  have e128 := lastB_128 he
  refine ⟨by omega, fun k hk => ?_, fun k hk => ?_⟩
  · unfold padOne
    by_cases h1 : k < e.length - 1
    · rw [List.getElem_append_left (by simpa using h1), List.getElem_dropLast]
      exact he.mid k (by omega)
    · have : k = e.length - 1 := by omega
      subst this
      rw [List.getElem_append_right (by simp)]
      simp only [List.length_dropLast, Nat.sub_self, List.getElem_cons_zero]
      omega
  · unfold padOne
    have : k = e.length := by omega
    subst this
    rw [List.getElem_append_right (by simp)]
    simp [show e.length - (e.length - 1) = 1 by omega]

theorem val_padOne {e : List UInt8} (he : Grp e) : val (padOne e) = val e := by
  have hp := he.pos
  have hl := lastB_lt he
  have e128 := lastB_128 he
  have h1 : padOne e = (e.dropLast ++ [lastB e + 128]) ++ [0] := by simp [padOne]
  rw [h1, val_snoc, val_snoc, e128]
  conv => rhs; rw [snoc_of hp, val_snoc]
  simp

theorem grp_pads {e : List UInt8} (he : Grp e) : ∀ m, Grp (pads e m)
  | 0 => he
  | m + 1 => grp_padOne (grp_pads he m)
theorem val_pads {e : List UInt8} (he : Grp e) : ∀ m, val (pads e m) = val e
  | 0 => rfl
  | m + 1 => (val_padOne (grp_pads he m)).trans (val_pads he m)
theorem pads_length {e : List UInt8} (he : Grp e) : ∀ m, (pads e m).length = e.length + m
  | 0 => rfl
  | m + 1 => by rw [pads, padOne_length (grp_pads he m).pos, pads_length he m]; omega

/-! ### zig-zag on 32 bits -/
/-- The number of a difference. -/
def zig (d : Int) : Nat := if d < 0 then (-2 * d - 1).toNat else (2 * d).toNat
/-- The difference of a number. -/
def zag (u : Nat) : Int := if u % 2 = 0 then (u / 2 : Nat) else -1 - ((u / 2 : Nat) : Int)
theorem zag_zig (d : Int) : zag (zig d) = d := by
  unfold zig zag
  split <;> split <;> omega
theorem zig_lt {d : Int} (h0 : -2147483648 ≤ d) (h1 : d ≤ 2147483647) : zig d < 4294967296 := by
  unfold zig
  split <;> omega
theorem zig_zero {d : Int} : zig d = 0 ↔ d = 0 := by
  unfold zig
  split <;> omega

/-! ### What 'step' makes of a number, in the walk's own forms -/
theorem xor_ones (a : Nat) (h : a < 4294967296) : 4294967295 ^^^ a = 4294967295 - a := by
  have h1 : (BitVec.allOnes 32 ^^^ BitVec.ofNat 32 a).toNat = (~~~ (BitVec.ofNat 32 a)).toNat := by
    rw [BitVec.allOnes_xor]
  rw [BitVec.toNat_xor, BitVec.toNat_not, BitVec.toNat_allOnes, BitVec.toNat_ofNat] at h1
  have e : (2 : Nat) ^ 32 = 4294967296 := by decide
  rw [e, Nat.mod_eq_of_lt h] at h1
  exact h1
theorem step_even (y : Nat) (h : y % 2 = 0) (hy : y < 4294967296) : wrap32 ((y : Int) / 2) = zag y := by
  unfold wrap32 zag
  rw [if_pos h]
  omega
theorem step_odd (y : Nat) (h : y % 2 = 1) (hy : y < 4294967296) : wrap32 (bits .xor .u32 IntKind.u32.max ((y : Int) / 2)) = zag y := by
  have e : IntKind.u32.max = ((4294967295 : Nat) : Int) := by decide
  have e2 : ((y : Int) / 2) = ((y / 2 : Nat) : Int) := by omega
  rw [e, e2, u32_xor_nat _ _ (by decide) (by omega), xor_ones _ (by omega)]
  unfold wrap32 zag
  rw [if_neg (by omega)]
  omega
theorem zag_zero : zag 0 = 0 := rfl
theorem wrap32_eq (n : Int) : IntKind.i32.wrap n = wrap32 n := IntKind.wrap_i32 n
theorem wrap32_id {n : Int} (h0 : -2147483648 ≤ n) (h1 : n ≤ 2147483647) : wrap32 n = n := by unfold wrap32; omega

/-! ### A table: pairs of a difference's number and quanta -/
/-- The bytes of pairs, without the nought at the end. -/
def tab : List (Nat × Nat) → List UInt8
  | [] => []
  | x :: r => Lib.uvarint x.1 ++ (Lib.uvarint x.2 ++ tab r)
/-- What the reader of a place answers: place and value ahead of the pairs. -/
def look (q target : Nat) : Nat → Int → List (Nat × Nat) → Int
  | _, _, [] => -1
  | pc, v, x :: r => if target < pc + x.2 * q then wrap32 (v + zag x.1) else look q target (pc + x.2 * q) (wrap32 (v + zag x.1)) r
/-- The pairs fit: every pair goes on, nothing runs over, none but the first has a nought. -/
def Fit (q : Nat) : Bool → Nat → List (Nat × Nat) → Prop
  | first, _, [] => first = false
  | first, pc, x :: r => x.1 < 4294967296 ∧ x.2 < 4294967296 ∧ 1 ≤ x.2 * q ∧ x.2 * q < 4294967296 ∧ pc + x.2 * q < 18446744073709551616 ∧ (first = true ∨ x.1 ≠ 0) ∧ Fit q false (pc + x.2 * q) r

theorem uvarint_short {n : Nat} (h : n < 4294967296) : (Lib.uvarint n).length ≤ 5 :=
  Lib.uvarint_length 4 n (Nat.lt_of_lt_of_le h (by decide))
theorem val_short {n : Nat} (h : n < 4294967296) : n = val (Lib.uvarint n) % 4294967296 := by
  rw [val_uvarint, Nat.mod_eq_of_lt h]
theorem grp_nought : Grp [0] := grp_one (by decide)

end Go.Proofs.Ytfbnnbbjfjhkjaa
