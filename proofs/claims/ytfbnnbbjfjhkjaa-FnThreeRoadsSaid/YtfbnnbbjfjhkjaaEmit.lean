/- Plain law: the pairs that the writer of a table emits, and what they tell at each place. -/
import Derived.Test.YtfbnnbbjfjhkjaaVal
namespace Go.Proofs.Ytfbnnbbjfjhkjaa
open Go.RowKit

/-- The next instruction stands at the same place. -/
def sameNext (x : Int × Int) : List (Int × Int) → Bool
  | [] => false
  | y :: _ => y.1 == x.1
/-- The pairs from an instruction on: z is the difference's number still to be closed, pc where its run begins, old its value. -/
def emit (size q : Int) : Nat → Int → Int → List (Int × Int) → List (Nat × Nat)
  | z, pc, _, [] => [(z, ((size - pc) / q).toNat)]
  | z, pc, old, x :: r => if x.2 = old ∨ sameNext x r = true then emit size q z pc old r else (z, ((x.1 - pc) / q).toNat) :: emit size q (zig (wrap32 (x.2 - old))) x.1 x.2 r
/-- The pairs of a function. -/
def pairs (size q pc0 : Int) : List (Int × Int) → List (Nat × Nat)
  | [] => []
  | x :: r => if sameNext x r = true then pairs size q pc0 r else emit size q (zig (wrap32 (x.2 - -1))) pc0 x.2 r

/-- The instructions stand in order from lo on, at multiples of q, ahead of size; their values are 32 bits. -/
def InOrder (size q : Int) : Int → List (Int × Int) → Prop
  | _, [] => True
  | lo, x :: r => lo ≤ x.1 ∧ x.1 < size ∧ x.1 % q = 0 ∧ -2147483648 ≤ x.2 ∧ x.2 ≤ 2147483647 ∧ InOrder size q x.1 r

/-- The value before the last instruction that stands at the place or ahead of it. -/
def atPlace (place : Int) : Int → List (Int × Int) → Int
  | v, [] => v
  | v, x :: r => atPlace place (if x.1 ≤ place then x.2 else v) r

theorem emit_tab (size q : Int) : ∀ (l : List (Int × Int)) (z : Nat) (pc old : Int), ∃ m r, emit size q z pc old l = (z, m) :: r
  | [], z, pc, old => ⟨_, _, rfl⟩
  | x :: r, z, pc, old => by
    rw [emit]
    by_cases h : x.2 = old ∨ sameNext x r = true
    · rw [if_pos h]; exact emit_tab size q r z pc old
    · rw [if_neg h]; exact ⟨_, _, rfl⟩

theorem emit_keep {size q : Int} {z : Nat} {pc old : Int} {x : Int × Int} {r : List (Int × Int)} (h : x.2 = old ∨ sameNext x r = true) : emit size q z pc old (x :: r) = emit size q z pc old r := by rw [emit, if_pos h]
theorem emit_turn {size q : Int} {z : Nat} {pc old : Int} {x : Int × Int} {r : List (Int × Int)} (h : ¬ (x.2 = old ∨ sameNext x r = true)) :
    emit size q z pc old (x :: r) = (z, ((x.1 - pc) / q).toNat) :: emit size q (zig (wrap32 (x.2 - old))) x.1 x.2 r := by rw [emit, if_neg h]
theorem pairs_keep {size q pc0 : Int} {x : Int × Int} {r : List (Int × Int)} (h : sameNext x r = true) : pairs size q pc0 (x :: r) = pairs size q pc0 r := by rw [pairs, if_pos h]
theorem pairs_turn {size q pc0 : Int} {x : Int × Int} {r : List (Int × Int)} (h : ¬ sameNext x r = true) : pairs size q pc0 (x :: r) = emit size q (zig (wrap32 (x.2 - -1))) pc0 x.2 r := by rw [pairs, if_neg h]

theorem wrap32_range (n : Int) : -2147483648 ≤ wrap32 n ∧ wrap32 n ≤ 2147483647 := by unfold wrap32; omega
theorem wrap32_back {a b : Int} (h0 : -2147483648 ≤ b) (h1 : b ≤ 2147483647) : wrap32 (a + wrap32 (b - a)) = b := by unfold wrap32; omega
theorem wrap32_ne {a b : Int} (ha0 : -2147483648 ≤ a) (ha1 : a ≤ 2147483647) (h0 : -2147483648 ≤ b) (h1 : b ≤ 2147483647) (h : b ≠ a) : wrap32 (b - a) ≠ 0 := by unfold wrap32; omega

theorem quanta_eq {a q : Int} (hq : 0 < q) (ha : 0 < a) (h : a % q = 0) : 1 ≤ (a / q).toNat ∧ (((a / q).toNat : Nat) : Int) * q = a := by
  have h1 := Int.mul_ediv_add_emod a q
  rw [h, Int.add_zero] at h1
  have h3 : 0 < a / q := by
    rcases Int.lt_or_le 0 (a / q) with h4 | h4
    · exact h4
    · have := Int.mul_le_mul_of_nonneg_left h4 (show 0 ≤ q by omega)
      omega
  refine ⟨by omega, ?_⟩
  rw [Int.toNat_of_nonneg (by omega), Int.mul_comm]
  exact h1

theorem InOrder.mono {size q lo lo' : Int} (h : lo' ≤ lo) : ∀ {l : List (Int × Int)}, InOrder size q lo l → InOrder size q lo' l
  | [], _ => trivial
  | x :: r, hl => ⟨by have := hl.1; omega, hl.2⟩
theorem inOrder_far {size q : Int} {x : Int × Int} {r : List (Int × Int)} (h : InOrder size q x.1 r) (hs : ¬ sameNext x r = true) : InOrder size q (x.1 + 1) r := by
  cases r with
  | nil => trivial
  | cons y r =>
    have hne : y.1 ≠ x.1 := fun e => hs (by simp [sameNext, e])
    exact ⟨by have := h.1; omega, h.2⟩

theorem emit_fit {size q : Int} {q' : Nat} (hq' : (q' : Int) = q) (hq0 : 1 ≤ q) (hsz : size ≤ 1073741824) (hsq : size % q = 0) (entry : Nat) (he : entry < 4611686018427387904) :
    ∀ (l : List (Int × Int)) (z : Nat) (pc old : Int) (pc' : Nat) (first : Bool), InOrder size q (pc + 1) l → (pc' : Int) = pc → pc < size → pc % q = 0 → -2147483648 ≤ old → old ≤ 2147483647 → z < 4294967296 → (first = true ∨ z ≠ 0) →
    Fit q' first (entry + pc') (emit size q z pc old l)
  | [], z, pc, old, pc', first, _, hpc, hlt, hm, _, _, hz, hf => by
    obtain ⟨h1, h2⟩ := quanta_eq (a := size - pc) (q := q) (by omega) (by omega) (by rw [Int.sub_emod, hsq, hm]; simp)
    rw [emit]
    generalize ((size - pc) / q).toNat = m at *
    have h3 : ((m * q' : Nat) : Int) = size - pc := by rw [← h2, ← hq']; simp
    have h4 : m ≤ m * q' := Nat.le_mul_of_pos_right m (by omega)
    exact ⟨hz, (by show m < 4294967296; omega), (by show 1 ≤ m * q'; omega), (by show m * q' < 4294967296; omega), (by show entry + pc' + m * q' < 18446744073709551616; omega), hf, rfl⟩
  | x :: r, z, pc, old, pc', first, ho, hpc, hlt, hm, ho0, ho1, hz, hf => by
    obtain ⟨g1, g2, g3, g4, g5, g6⟩ := ho
    by_cases h : x.2 = old ∨ sameNext x r = true
    · rw [emit_keep h]
      exact emit_fit hq' hq0 hsz hsq entry he r z pc old pc' first (g6.mono g1) hpc hlt hm ho0 ho1 hz hf
    · rw [emit_turn h]
      obtain ⟨h1, h2⟩ := quanta_eq (a := x.1 - pc) (q := q) (by omega) (by omega) (by rw [Int.sub_emod, g3, hm]; simp)
      generalize ((x.1 - pc) / q).toNat = m at *
      have h3 : ((m * q' : Nat) : Int) = x.1 - pc := by rw [← h2, ← hq']; simp
      have h4 : m ≤ m * q' := Nat.le_mul_of_pos_right m (by omega)
      have hw := wrap32_range (x.2 - old)
      have hne := wrap32_ne ho0 ho1 g4 g5 (fun e => h (.inl e))
      have ih := emit_fit hq' hq0 hsz hsq entry he r (zig (wrap32 (x.2 - old))) x.1 x.2 (pc' + m * q') false (inOrder_far g6 fun e => h (.inr e)) (by omega) g2 g3 g4 g5 (zig_lt hw.1 hw.2) (.inr fun e => hne (zig_zero.1 e))
      rw [← Nat.add_assoc] at ih
      exact ⟨hz, (by show m < 4294967296; omega), (by show 1 ≤ m * q'; omega), (by show m * q' < 4294967296; omega), (by show entry + pc' + m * q' < 18446744073709551616; omega), hf, ih⟩

theorem atPlace_low {size q : Int} {place : Int} : ∀ {l : List (Int × Int)} {lo : Int} {v : Int}, InOrder size q lo l → place < lo → atPlace place v l = v
  | [], _, _, _, _ => rfl
  | x :: r, lo, v, h, hp => by
    have h1 := h.1
    rw [atPlace, if_neg (by omega)]
    exact atPlace_low h.2.2.2.2.2 (by omega)

theorem atPlace_keep {place old : Int} {x : Int × Int} {r : List (Int × Int)} (h : x.2 = old ∨ sameNext x r = true) : atPlace place old (x :: r) = atPlace place old r := by
  rw [atPlace]
  rcases h with h | h
  · rw [h, ite_self]
  · cases r with
    | nil => simp [sameNext] at h
    | cons y r =>
      have hy : y.1 = x.1 := by simpa [sameNext] using h
      rw [atPlace, atPlace]
      by_cases hp : x.1 ≤ place
      · rw [if_pos (by omega), if_pos (by omega)]
      · rw [if_neg hp]

theorem emit_look {size q : Int} {q' : Nat} (hq' : (q' : Int) = q) (hq0 : 1 ≤ q) (hsq : size % q = 0) (entry place : Nat) :
    ∀ (l : List (Int × Int)) (z : Nat) (pc old v : Int) (pc' : Nat), InOrder size q (pc + 1) l → (pc' : Int) = pc → pc < size → pc % q = 0 → wrap32 (v + zag z) = old →
    ((pc ≤ place → (place : Int) < size → look q' (entry + place) (entry + pc') v (emit size q z pc old l) = atPlace place old l) ∧
     (size ≤ place → look q' (entry + place) (entry + pc') v (emit size q z pc old l) = -1))
  | [], z, pc, old, v, pc', _, hpc, hlt, hm, hv => by
    obtain ⟨h1, h2⟩ := quanta_eq (a := size - pc) (q := q) (by omega) (by omega) (by rw [Int.sub_emod, hsq, hm]; simp)
    rw [emit]
    generalize ((size - pc) / q).toNat = m at *
    have h3 : ((m * q' : Nat) : Int) = size - pc := by rw [← h2, ← hq']; simp
    refine ⟨fun _ hp => ?_, fun hp => ?_⟩
    · rw [look, if_pos (by show entry + place < entry + pc' + m * q'; omega)]
      exact hv
    · rw [look, if_neg (by show ¬ entry + place < entry + pc' + m * q'; omega)]
      rfl
  | x :: r, z, pc, old, v, pc', ho, hpc, hlt, hm, hv => by
    obtain ⟨g1, g2, g3, g4, g5, g6⟩ := ho
    by_cases h : x.2 = old ∨ sameNext x r = true
    · rw [emit_keep h, atPlace_keep h]
      exact emit_look hq' hq0 hsq entry place r z pc old v pc' (g6.mono g1) hpc hlt hm hv
    · rw [emit_turn h]
      obtain ⟨h1, h2⟩ := quanta_eq (a := x.1 - pc) (q := q) (by omega) (by omega) (by rw [Int.sub_emod, g3, hm]; simp)
      generalize ((x.1 - pc) / q).toNat = m at *
      have h3 : ((m * q' : Nat) : Int) = x.1 - pc := by rw [← h2, ← hq']; simp
      have ih := emit_look hq' hq0 hsq entry place r (zig (wrap32 (x.2 - old))) x.1 x.2 old (pc' + m * q') (inOrder_far g6 fun e => h (.inr e)) (by omega) g2 g3 (by rw [zag_zig]; exact wrap32_back g4 g5)
      rw [← Nat.add_assoc] at ih
      refine ⟨fun hp0 hp => ?_, fun hp => ?_⟩
      · rw [look]
        by_cases hx : (place : Int) < x.1
        · rw [if_pos (by show entry + place < entry + pc' + m * q'; omega), atPlace, if_neg (by omega), atPlace_low g6 hx]
          exact hv
        · rw [if_neg (by show ¬ entry + place < entry + pc' + m * q'; omega), atPlace, if_pos (by omega)]
          rw [hv]
          exact ih.1 (by omega) hp
      · rw [look, if_neg (by show ¬ entry + place < entry + pc' + m * q'; omega), hv]
        exact ih.2 hp

/-- The pairs of a function: they fit, and tell the value at each place, and -1 behind its end. -/
theorem pairs_fit {size q : Int} {q' : Nat} (hq' : (q' : Int) = q) (hq0 : 1 ≤ q) (hsz : size ≤ 1073741824) (hsq : size % q = 0) (entry : Nat) (he : entry < 4611686018427387904) :
    ∀ (x : Int × Int) (r : List (Int × Int)), InOrder size q 0 (x :: r) → x.1 = 0 → Fit q' true entry (pairs size q 0 (x :: r)) := by
  intro x r
  induction r generalizing x with
  | nil =>
    intro h hx
    obtain ⟨g1, g2, g3, g4, g5, g6⟩ := h
    rw [pairs_turn (by simp [sameNext])]
    have hw := wrap32_range (x.2 - -1)
    exact emit_fit hq' hq0 hsz hsq entry he [] _ 0 x.2 0 true trivial rfl (by omega) (by simp) g4 g5 (zig_lt hw.1 hw.2) (.inl rfl)
  | cons y r ih =>
    intro h hx
    obtain ⟨g1, g2, g3, g4, g5, g6⟩ := h
    by_cases hs : sameNext x (y :: r) = true
    · rw [pairs_keep hs]
      have hy : y.1 = x.1 := by simpa [sameNext] using hs
      exact ih y (g6.mono (by omega)) (by omega)
    · rw [pairs_turn hs]
      have hw := wrap32_range (x.2 - -1)
      have h0 := inOrder_far g6 hs
      rw [hx] at h0
      exact emit_fit hq' hq0 hsz hsq entry he (y :: r) _ 0 x.2 0 true h0 rfl (by omega) (by simp) g4 g5 (zig_lt hw.1 hw.2) (.inl rfl)

theorem pairs_look {size q : Int} {q' : Nat} (hq' : (q' : Int) = q) (hq0 : 1 ≤ q) (hsq : size % q = 0) (entry place : Nat) :
    ∀ (x : Int × Int) (r : List (Int × Int)), InOrder size q 0 (x :: r) → x.1 = 0 →
    (((place : Int) < size → look q' (entry + place) entry (-1) (pairs size q 0 (x :: r)) = atPlace place (-1) (x :: r)) ∧ (size ≤ place → look q' (entry + place) entry (-1) (pairs size q 0 (x :: r)) = -1)) := by
  intro x r
  induction r generalizing x with
  | nil =>
    intro h hx
    obtain ⟨g1, g2, g3, g4, g5, g6⟩ := h
    rw [pairs_turn (by simp [sameNext])]
    have := emit_look hq' hq0 hsq entry place [] (zig (wrap32 (x.2 - -1))) 0 x.2 (-1) 0 trivial rfl (by omega) (by simp) (by rw [zag_zig]; exact wrap32_back g4 g5)
    refine ⟨fun hp => ?_, this.2⟩
    rw [atPlace, if_pos (by omega)]
    exact this.1 (by omega) hp
  | cons y r ih =>
    intro h hx
    obtain ⟨g1, g2, g3, g4, g5, g6⟩ := h
    by_cases hs : sameNext x (y :: r) = true
    · rw [pairs_keep hs, atPlace_keep (.inr hs)]
      have hy : y.1 = x.1 := by simpa [sameNext] using hs
      exact ih y (g6.mono (by omega)) (by omega)
    · rw [pairs_turn hs]
      have h0 := inOrder_far g6 hs
      rw [hx] at h0
      have := emit_look hq' hq0 hsq entry place (y :: r) (zig (wrap32 (x.2 - -1))) 0 x.2 (-1) 0 h0 rfl (by omega) (by simp) (by rw [zag_zig]; exact wrap32_back g4 g5)
      refine ⟨fun hp => ?_, this.2⟩
      rw [atPlace, if_pos (by omega)]
      exact this.1 (by omega) hp

end Go.Proofs.Ytfbnnbbjfjhkjaa
