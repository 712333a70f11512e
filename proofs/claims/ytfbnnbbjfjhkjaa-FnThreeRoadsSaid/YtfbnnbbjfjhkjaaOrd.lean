/- Plain law: a well function's instructions stand in order; the length of its table. -/
import Derived.Test.YtfbnnbbjfjhkjaaCwell
import Derived.Test.YtfbnnbbjfjhkjaaEmit
namespace Go.Proofs.Ytfbnnbbjfjhkjaa
open Go.RowKit
set_option linter.unusedVariables false

theorem emit_length (size q : Int) : ∀ (l : List (Int × Int)) (z : Nat) (pc old : Int), (emit size q z pc old l).length ≤ l.length + 1
  | [], _, _, _ => by simp [emit]
  | x :: r, z, pc, old => by
    rw [emit]
    by_cases h : x.2 = old ∨ sameNext x r = true
    · rw [if_pos h]
      have := emit_length size q r z pc old
      simp only [List.length_cons]
      omega
    · rw [if_neg h]
      have := emit_length size q r (zig (wrap32 (x.2 - old))) x.1 x.2
      simp only [List.length_cons]
      omega
theorem pairs_length (size q pc0 : Int) : ∀ (l : List (Int × Int)), (pairs size q pc0 l).length ≤ l.length + 1
  | [] => by simp [pairs]
  | x :: r => by
    rw [pairs]
    by_cases h : sameNext x r = true
    · rw [if_pos h]
      have := pairs_length size q pc0 r
      simp only [List.length_cons]
      omega
    · rw [if_neg h]
      have := emit_length size q r (zig (wrap32 (x.2 - -1))) pc0 x.2
      simp only [List.length_cons]
      omega
theorem tab_most {q : Nat} : ∀ (r : List (Nat × Nat)) (first : Bool) (e : Nat), Fit q first e r → (tab r).length ≤ 10 * r.length
  | [], _, _, _ => by simp [tab]
  | x :: r, first, e, h => by
    obtain ⟨h1, h2, h3, h4, h5, h6, h7⟩ := h
    have := tab_most r _ _ h7
    have a1 := uvarint_short h1
    have a2 := uvarint_short h2
    simp only [tab, List.length_append, List.length_cons]
    omega

theorem well_mono {l : List Int} {sz q : Int} {n2 n3 : Nat} (h : CodeWell l sz q n2 n3) : ∀ (j i : Nat) (hi : i ≤ j) (hj : j < l.length), l[i]'(by omega) ≤ l[j] := by
  intro j
  induction j with
  | zero =>
    intro i hi hj
    obtain rfl : i = 0 := by omega
    exact Int.le_refl _
  | succ j ih =>
    intro i hi hj
    by_cases he : i = j + 1
    · subst he
      exact Int.le_refl _
    · have h1 := ih i (by omega) (by omega)
      have h2 := (h.each (j + 1) hj).2.2 (by omega)
      rw [prevP_succ (by omega)] at h2
      exact Int.le_trans h1 h2
theorem well_first {l : List Int} {sz q : Int} {n2 n3 : Nat} (h : CodeWell l sz q n2 n3) : l[0]'h.some_ = 0 := (h.each 0 h.some_).2.1 rfl
theorem well_last {l : List Int} {sz q : Int} {n2 n3 : Nat} (h : CodeWell l sz q n2 n3) (i : Nat) (hi : i < l.length) : 0 ≤ l[i] ∧ l[i] < sz := by
  have h1 := well_mono h i 0 (by omega) hi
  rw [well_first h] at h1
  have h2 := well_mono h (l.length - 1) i (by omega) (by omega)
  have h3 := h.long
  have h4 : prevP l l.length = l[l.length - 1]'(by omega) := by
    unfold prevP
    rw [List.getElem?_eq_getElem (by omega)]
    rfl
  rw [h4] at h3
  exact ⟨h1, by omega⟩
theorem well_size {l : List Int} {sz q : Int} {n2 n3 : Nat} (h : CodeWell l sz q n2 n3) : 0 < sz ∧ sz % q = 0 ∧ 1 ≤ q ∧ q ≤ 4 := by
  have h1 := well_last h 0 h.some_
  have h2 := h.size
  rw [Int.tmod_eq_emod_of_nonneg (by omega)] at h2
  have := h.quantum
  exact ⟨by omega, h2, by omega, by omega⟩
theorem well_order {l b : List Int} {sz q : Int} {n2 n3 : Nat} (h : CodeWell l sz q n2 n3) (hb : b.length = l.length) (hv : ∀ x ∈ b, -2147483648 ≤ x ∧ x ≤ 2147483647) :
    ∀ (k i : Nat) (lo : Int), i + k = l.length → (∀ hi : i < l.length, lo ≤ l[i]) → InOrder sz q lo ((l.zip b).drop i)
  | 0, i, lo, hk, _ => by
    rw [List.drop_eq_nil_of_le (by rw [List.length_zip]; omega)]
    trivial
  | k + 1, i, lo, hk, hlo => by
    have hi : i < l.length := by omega
    rw [List.drop_eq_getElem_cons (by rw [List.length_zip]; omega), List.getElem_zip]
    have h1 := well_last h i hi
    have h2 := (h.each i hi).1
    rw [Int.tmod_eq_emod_of_nonneg (by omega)] at h2
    have h3 := hv _ (List.getElem_mem (show i < b.length by omega))
    exact ⟨hlo hi, h1.2, h2, h3.1, h3.2, well_order h hb hv k (i + 1) _ (by omega) fun hi' => well_mono h (i + 1) i (by omega) hi'⟩

/-- The table of a well function: it tells at each place ahead of the end what the function tells, and -1 behind it. -/
theorem well_table {l b : List Int} {sz q : Int} {n2 n3 : Nat} {q' : Nat} (h : CodeWell l sz q n2 n3) (hb : b.length = l.length) (hv : ∀ x ∈ b, -2147483648 ≤ x ∧ x ≤ 2147483647) (hq : (q' : Int) = q) (hl : l.length ≤ 2147483647) :
    InOrder sz q 0 (l.zip b) ∧ Fit q' true 0 (pairs sz q 0 (l.zip b)) ∧ (tab (pairs sz q 0 (l.zip b)) ++ [0]).length ≤ 140737488355328 ∧
    (∀ t : Nat, (t : Int) < sz → look q' t 0 (-1) (pairs sz q 0 (l.zip b)) = atPlace t (-1) (l.zip b)) ∧ (∀ t : Nat, sz ≤ (t : Int) → look q' t 0 (-1) (pairs sz q 0 (l.zip b)) = -1) := by
  have ho := well_order h hb hv l.length 0 0 (by omega) fun hi => (well_last h 0 hi).1
  rw [List.drop_zero] at ho
  have hs := well_size h
  have h0 := well_first h
  have hz : (l.zip b).length = l.length := by rw [List.length_zip]; omega
  have hfl := pairs_length sz q 0 (l.zip b)
  have hp := h.some_
  obtain ⟨x, r, hx, hx0⟩ : ∃ x r, l.zip b = x :: r ∧ x.1 = 0 := by
    cases l with
    | nil => simp at hp
    | cons a l =>
      cases b with
      | nil => simp at hb
      | cons c b => exact ⟨(a, c), l.zip b, rfl, h0⟩
  rw [hx] at ho hfl hz ⊢
  have hf := pairs_fit hq hs.2.2.1 h.most hs.2.1 0 (by omega) x r ho hx0
  have hlk := fun t : Nat => pairs_look hq hs.2.2.1 hs.2.1 0 t x r ho hx0
  simp only [Nat.zero_add] at hlk
  refine ⟨ho, hf, ?_, fun t => (hlk t).1, fun t => (hlk t).2⟩
  have := tab_most _ _ _ hf
  simp only [List.length_append, List.length_cons, List.length_nil] at hfl hz ⊢
  omega
end Go.Proofs.Ytfbnnbbjfjhkjaa
