/- Plain law: the ranges that the pairs of a table tell; just one of them holds a place, and its value is the table's. -/
import Derived.Test.YtfbnnbbjfjhkjaaEmit
namespace Go.Proofs.Ytfbnnbbjfjhkjaa
open Go.RowKit

/-- The ranges of pairs: value, begin, end. -/
def rng (q : Nat) : Nat → Int → List (Nat × Nat) → List (Int × Nat × Nat)
  | _, _, [] => []
  | e, v, p :: r => (wrap32 (v + zag p.1), e, e + p.2 * q) :: rng q (e + p.2 * q) (wrap32 (v + zag p.1)) r
/-- Where the pairs end. -/
def fin (q : Nat) : Nat → List (Nat × Nat) → Nat
  | e, [] => e
  | e, p :: r => fin q (e + p.2 * q) r

theorem rng_length (q : Nat) : ∀ (r : List (Nat × Nat)) (e : Nat) (v : Int), (rng q e v r).length = r.length
  | [], _, _ => rfl
  | p :: r, e, v => by rw [rng, List.length_cons, rng_length q r, List.length_cons]
theorem fin_le (q : Nat) : ∀ (r : List (Nat × Nat)) (e : Nat), e ≤ fin q e r
  | [], _ => Nat.le_refl _
  | p :: r, e => Nat.le_trans (Nat.le_add_right _ _) (fin_le q r (e + p.2 * q))

/-- What is known at a range of a chain: n ranges of those before held the place t, and the answer is W. -/
def At1 (q t : Nat) (W : Int) (F : Nat) (e : Nat) (v : Int) (r : List (Nat × Nat)) (n : Nat) : Prop :=
  fin q e r = F ∧ ((t < e ∧ n = 1) ∨ (e ≤ t ∧ n = 0 ∧ look q t e v r = W))
theorem At1.start {q t : Nat} {W : Int} {v : Int} {r : List (Nat × Nat)} (h : look q t 0 v r = W) : At1 q t W (fin q 0 r) 0 v r 0 := ⟨rfl, .inr ⟨Nat.zero_le _, rfl, h⟩⟩
theorem At1.hit {q t F e : Nat} {W v : Int} {p : Nat × Nat} {r : List (Nat × Nat)} {n : Nat} (h : At1 q t W F e v (p :: r) n) (h1 : e ≤ t) (h2 : t < e + p.2 * q) :
    wrap32 (v + zag p.1) = W ∧ n = 0 ∧ At1 q t W F (e + p.2 * q) (wrap32 (v + zag p.1)) r 1 := by
  obtain ⟨hf, h⟩ := h
  rcases h with ⟨h, _⟩ | ⟨_, hn, hl⟩
  · omega
  · rw [look, if_pos h2] at hl
    exact ⟨hl, hn, hf, .inl ⟨h2, rfl⟩⟩
theorem At1.ahead {q t F e : Nat} {W v : Int} {p : Nat × Nat} {r : List (Nat × Nat)} {n : Nat} (h : At1 q t W F e v (p :: r) n) (h1 : t < e) : At1 q t W F (e + p.2 * q) (wrap32 (v + zag p.1)) r n := by
  obtain ⟨hf, h⟩ := h
  rcases h with ⟨_, hn⟩ | ⟨h, _⟩
  · exact ⟨hf, .inl ⟨by omega, hn⟩⟩
  · omega
theorem At1.behind {q t F e : Nat} {W v : Int} {p : Nat × Nat} {r : List (Nat × Nat)} {n : Nat} (h : At1 q t W F e v (p :: r) n) (h2 : e + p.2 * q ≤ t) : At1 q t W F (e + p.2 * q) (wrap32 (v + zag p.1)) r n := by
  obtain ⟨hf, h⟩ := h
  rcases h with ⟨h, _⟩ | ⟨h, hn, hl⟩
  · omega
  · rw [look, if_neg (by omega)] at hl
    exact ⟨hf, .inr ⟨h2, hn, hl⟩⟩
theorem At1.done {q t F e : Nat} {W v : Int} {n : Nat} (h : At1 q t W F e v [] n) (ht : t < F) : n = 1 := by
  obtain ⟨hf, h⟩ := h
  rw [fin] at hf
  omega

/-- The pairs of a function end where the function ends. -/
theorem emit_fin {size q : Int} {q' : Nat} (hq' : (q' : Int) = q) (hq0 : 1 ≤ q) (hsq : size % q = 0) :
    ∀ (l : List (Int × Int)) (z : Nat) (pc old : Int) (pc' : Nat), InOrder size q (pc + 1) l → (pc' : Int) = pc → pc < size → pc % q = 0 → ((fin q' pc' (emit size q z pc old l) : Nat) : Int) = size
  | [], z, pc, old, pc', _, hpc, hlt, hm => by
    obtain ⟨h1, h2⟩ := quanta_eq (a := size - pc) (q := q) (by omega) (by omega) (by rw [Int.sub_emod, hsq, hm]; simp)
    rw [emit, fin, fin]
    generalize ((size - pc) / q).toNat = m at *
    have h3 : ((m * q' : Nat) : Int) = size - pc := by rw [← h2, ← hq']; simp
    show ((pc' + m * q' : Nat) : Int) = size
    omega
  | x :: r, z, pc, old, pc', ho, hpc, hlt, hm => by
    obtain ⟨g1, g2, g3, g4, g5, g6⟩ := ho
    by_cases h : x.2 = old ∨ sameNext x r = true
    · rw [emit_keep h]
      exact emit_fin hq' hq0 hsq r z pc old pc' (g6.mono g1) hpc hlt hm
    · rw [emit_turn h, fin]
      obtain ⟨h1, h2⟩ := quanta_eq (a := x.1 - pc) (q := q) (by omega) (by omega) (by rw [Int.sub_emod, g3, hm]; simp)
      generalize ((x.1 - pc) / q).toNat = m at *
      have h3 : ((m * q' : Nat) : Int) = x.1 - pc := by rw [← h2, ← hq']; simp
      exact emit_fin hq' hq0 hsq r _ x.1 x.2 (pc' + m * q') (inOrder_far g6 fun e => h (.inr e)) (by omega) g2 g3
theorem pairs_fin {size q : Int} {q' : Nat} (hq' : (q' : Int) = q) (hq0 : 1 ≤ q) (hsq : size % q = 0) :
    ∀ (x : Int × Int) (r : List (Int × Int)), InOrder size q 0 (x :: r) → x.1 = 0 → ((fin q' 0 (pairs size q 0 (x :: r)) : Nat) : Int) = size := by
  intro x r
  induction r generalizing x with
  | nil =>
    intro h hx
    obtain ⟨g1, g2, g3, g4, g5, g6⟩ := h
    rw [pairs_turn (by simp [sameNext])]
    exact emit_fin hq' hq0 hsq [] _ 0 x.2 0 trivial rfl (by omega) (by simp)
  | cons y r ih =>
    intro h hx
    obtain ⟨g1, g2, g3, g4, g5, g6⟩ := h
    by_cases hs : sameNext x (y :: r) = true
    · rw [pairs_keep hs]
      have hy : y.1 = x.1 := by simpa [sameNext] using hs
      exact ih y (g6.mono (by omega)) (by omega)
    · rw [pairs_turn hs]
      have h0 := inOrder_far g6 hs
      rw [hx] at h0
      exact emit_fin hq' hq0 hsq (y :: r) _ 0 x.2 0 h0 rfl (by omega) (by simp)
theorem pairs_some {size q : Int} : ∀ (x : Int × Int) (r : List (Int × Int)) (pc0 : Int), ∃ p l, pairs size q pc0 (x :: r) = p :: l := by
  intro x r
  induction r generalizing x with
  | nil =>
    intro pc0
    rw [pairs_turn (by simp [sameNext])]
    obtain ⟨m, r, h⟩ := emit_tab size q [] (zig (wrap32 (x.2 - -1))) pc0 x.2
    exact ⟨_, _, h⟩
  | cons y r ih =>
    intro pc0
    by_cases hs : sameNext x (y :: r) = true
    · rw [pairs_keep hs]; exact ih y pc0
    · rw [pairs_turn hs]
      obtain ⟨m, r, h⟩ := emit_tab size q (y :: r) (zig (wrap32 (x.2 - -1))) pc0 x.2
      exact ⟨_, _, h⟩
end Go.Proofs.Ytfbnnbbjfjhkjaa
