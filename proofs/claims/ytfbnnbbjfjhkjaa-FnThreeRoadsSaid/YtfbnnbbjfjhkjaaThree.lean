/- Plain law: what the table of a well function tells, for the three roads; and a place among its ranges. -/
import Derived.Test.YtfbnnbbjfjhkjaaOrd
import Derived.Test.YtfbnnbbjfjhkjaaRng
namespace Go.Proofs.Ytfbnnbbjfjhkjaa
open Go.RowKit
set_option linter.unusedVariables false

theorem well_three {l b : List Int} {sz q : Int} {n2 n3 : Nat} {q' : Nat} (h : CodeWell l sz q n2 n3) (hb : b.length = l.length) (hv : ∀ x ∈ b, -2147483648 ≤ x ∧ x ≤ 2147483647) (hq : (q' : Int) = q) :
    ∃ p r, pairs sz q 0 (l.zip b) = p :: r ∧ ((fin q' 0 (p :: r) : Nat) : Int) = sz ∧ (∀ entry, entry < 4611686018427387904 → Fit q' true entry (p :: r)) ∧
      (∀ entry t : Nat, (t : Int) < sz → look q' (entry + t) entry (-1) (p :: r) = atPlace t (-1) (l.zip b)) ∧ (p :: r).length ≤ l.length + 1 := by
  have ho := well_order h hb hv l.length 0 0 (by omega) fun hi => (well_last h 0 hi).1
  rw [List.drop_zero] at ho
  have hs := well_size h
  have h0 := well_first h
  have hz : (l.zip b).length = l.length := by rw [List.length_zip]; omega
  have hfl := pairs_length sz q 0 (l.zip b)
  have hp := h.some_
  obtain ⟨x, r, hx, hx0⟩ : ∃ x r, l.zip b = x :: r ∧ x.1 = 0 := by
    cases l with
    | nil => simp at hp
    | cons a l =>
      cases b with
      | nil => simp at hb
      | cons c b => exact ⟨(a, c), l.zip b, rfl, h0⟩
  rw [hx] at ho hfl hz ⊢
  obtain ⟨p, r', hpr⟩ := pairs_some (size := sz) (q := q) x r 0
  have h1 := pairs_fin hq hs.2.2.1 hs.2.1 x r ho hx0
  have h2 := fun entry (he : entry < 4611686018427387904) => pairs_fit hq hs.2.2.1 h.most hs.2.1 entry he x r ho hx0
  have h3 := fun entry t : Nat => pairs_look hq hs.2.2.1 hs.2.1 entry t x r ho hx0
  rw [hpr] at h1 h2 hfl
  simp only [hpr] at h3
  exact ⟨p, r', hpr, h1, h2, fun entry t ht => (h3 entry t).1 ht, by rw [hz] at hfl; exact hfl⟩

/-- What is known of the ranges from place i on, for the place t: n of those before held it. -/
def T3 (q t : Nat) (W : Int) (F : Nat) (all : List (Int × Nat × Nat)) (i n : Nat) : Prop := ∃ e v rest, all.drop i = rng q e v rest ∧ At1 q t W F e v rest n ∧ n ≤ 1
theorem T3.done {q t : Nat} {W : Int} {F : Nat} {all : List (Int × Nat × Nat)} {i n : Nat} (h : T3 q t W F all i n) (hi : all.length ≤ i) (ht : t < F) : n = 1 := by
  obtain ⟨e, v, rest, h1, h2, -⟩ := h
  rw [List.drop_eq_nil_of_le hi] at h1
  cases rest with
  | nil => exact h2.done ht
  | cons p r => rw [rng] at h1; cases h1
/-- The next range: it holds the place, lies behind it, or ahead of it. -/
theorem T3.next {q t : Nat} {W : Int} {F : Nat} {all : List (Int × Nat × Nat)} {i n : Nat} (h : T3 q t W F all i n) (hi : i < all.length) :
    ∃ v e e', all[i] = (v, e, e') ∧ e ≤ F ∧ e' ≤ F ∧ n ≤ 1 ∧ ((e ≤ t ∧ t < e' ∧ v = W ∧ n = 0 ∧ T3 q t W F all (i + 1) 1) ∨ (t < e ∧ T3 q t W F all (i + 1) n) ∨ (e ≤ t ∧ e' ≤ t ∧ T3 q t W F all (i + 1) n)) := by
  obtain ⟨e, v, rest, h1, h2, hn⟩ := h
  rw [List.drop_eq_getElem_cons hi] at h1
  cases rest with
  | nil => rw [rng] at h1; cases h1
  | cons p r =>
    rw [rng] at h1
    injection h1 with h1 h3
    have hF := h2.1
    rw [fin] at hF
    have hfl := fin_le q r (e + p.2 * q)
    refine ⟨_, _, _, h1, by omega, by omega, hn, ?_⟩
    rcases Nat.lt_or_ge t e with c1 | c1
    · exact .inr (.inl ⟨c1, _, _, _, h3, h2.ahead c1, hn⟩)
    · rcases Nat.lt_or_ge t (e + p.2 * q) with c2 | c2
      · obtain ⟨k1, k2, k3⟩ := h2.hit c1 c2
        exact .inl ⟨c1, c2, k1, k2, _, _, _, h3, k3, Nat.le_refl _⟩
      · exact .inr (.inr ⟨c1, c2, _, _, _, h3, h2.behind c2, hn⟩)
end Go.Proofs.Ytfbnnbbjfjhkjaa
