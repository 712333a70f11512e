/- Plain law: the table of well runs, looked up by the reader, answers the value of the run. -/
import Derived.Test.YtfbnnbbjfjhkjaaRuns
namespace Go.Proofs.Ytfbnnbbjfjhkjaa
open Go.RowKit

/-- The pairs of runs: the number of each difference, and the quanta. -/
def ents : Int → List (Nat × Int) → List (Nat × Nat)
  | _, [] => []
  | last, x :: r => (zig (x.2 - last), x.1) :: ents x.2 r
/-- The value of the run that has n bytes behind the entry; -1 behind all runs. -/
def atR (q : Nat) : Nat → List (Nat × Int) → Int
  | _, [] => -1
  | n, x :: r => if n < x.1 * q then x.2 else atR q (n - x.1 * q) r
/-- How many bytes all runs have. -/
def sizeR (q : Nat) : List (Nat × Int) → Nat
  | [] => 0
  | x :: r => x.1 * q + sizeR q r

/-- Runs that are well behind a run of value p (first: there is none). -/
def WellFrom : Bool → Int → List (Nat × Int) → Prop
  | _, _, [] => True
  | first, p, x :: r => okRun first p x ∧ WellFrom false x.2 r

theorem wellFrom_of : ∀ (l : List (Nat × Int)) (first : Bool) (p : Int), (∀ i (h : i < l.length), okRun (if i = 0 then first else false) (if i = 0 then p else prevV l i) l[i]) → WellFrom first p l
  | [], _, _, _ => trivial
  | x :: r, first, p, h => by
    refine ⟨h 0 (Nat.zero_lt_succ _), wellFrom_of r false x.2 fun i hi => ?_⟩
    have := h (i + 1) (by simpa using hi)
    simp only [Nat.add_eq_zero_iff, Nat.succ_ne_self, and_false, if_false, List.getElem_cons_succ] at this
    cases i with
    | zero => simpa [prevV] using this
    | succ i =>
      have e : prevV (x :: r) (i + 1 + 1) = prevV r (i + 1) := rfl
      rw [e] at this
      simpa using this

theorem wellFrom_of_well {l : List (Nat × Int)} (h : WellL l) : WellFrom true 0 l :=
  wellFrom_of l true 0 fun i hi => by
    have := h.1 i hi
    by_cases h0 : i = 0
    · subst h0
      exact ⟨this.1, this.2.1, this.2.2.1, this.2.2.2.1, fun h => by cases h⟩
    · rw [if_neg h0, if_neg h0]
      simpa [h0] using this

theorem sizeR_le (q : Nat) : ∀ (l : List (Nat × Int)) (first : Bool) (p : Int), WellFrom first p l → sizeR q l ≤ l.length * (1048576 * q)
  | [], _, _, _ => by simp [sizeR]
  | x :: r, first, p, h => by
    have ih := sizeR_le q r false x.2 h.2
    have h1 := Nat.mul_le_mul_right q h.1.2.1
    simp only [sizeR, List.length_cons, Nat.add_mul, Nat.one_mul]
    omega

theorem fit_ents (q : Nat) (hq : 1 ≤ q) (hq4 : q ≤ 4) : ∀ (l : List (Nat × Int)) (first : Bool) (p : Int) (pc : Nat), WellFrom first p l → -1048576 ≤ p → p ≤ 1048576 → (l = [] → first = false) → pc + sizeR q l < 18446744073709551616 →
    Fit q first pc (ents p l)
  | [], first, _, _, _, _, _, h, _ => h rfl
  | x :: r, first, p, pc, hw, hp0, hp1, _, hs => by
    obtain ⟨⟨h1, h2, h3, h4, h5⟩, hr⟩ := hw
    have hm := Nat.mul_le_mul h2 hq4
    have hm1 := Nat.mul_le_mul h1 hq
    simp only [sizeR] at hs
    refine ⟨zig_lt (by omega) (by omega), (by show x.1 < 4294967296; omega), (by show 1 ≤ x.1 * q; omega), (by show x.1 * q < 4294967296; omega), (by show pc + x.1 * q < 18446744073709551616; omega), ?_, fit_ents q hq hq4 r false x.2 (pc + x.1 * q) hr h3 h4 (fun _ => rfl) (by omega)⟩
    cases first
    · refine .inr fun e => h5 rfl ?_
      have := zig_zero.1 e
      omega
    · exact .inl rfl

theorem look_ents (q : Nat) (hq : 1 ≤ q) : ∀ (l : List (Nat × Int)) (first : Bool) (p : Int) (pc n : Nat), WellFrom first p l → -1048576 ≤ p → p ≤ 1048576 → look q (pc + n) pc p (ents p l) = atR q n l
  | [], _, _, _, _, _, _, _ => rfl
  | x :: r, first, p, pc, n, hw, hp0, hp1 => by
    obtain ⟨⟨h1, h2, h3, h4, h5⟩, hr⟩ := hw
    have hv : wrap32 (p + zag (zig (x.2 - p))) = x.2 := by
      rw [zag_zig, wrap32_id (by omega) (by omega)]
      omega
    simp only [ents, look, atR, hv]
    by_cases hlt : n < x.1 * q
    · rw [if_pos (by omega), if_pos hlt]
    · rw [if_neg (by omega), if_neg hlt]
      have := look_ents q hq r false x.2 (pc + x.1 * q) (n - x.1 * q) hr h3 h4
      rw [← this]
      congr 1
      omega

theorem atR_behind (q : Nat) : ∀ (l : List (Nat × Int)) (n : Nat), sizeR q l ≤ n → atR q n l = -1
  | [], _, _ => rfl
  | x :: r, n, h => by
    simp only [sizeR] at h
    rw [atR, if_neg (by omega)]
    exact atR_behind q r _ (by omega)

/-- The same values with a quantum of more bytes: each byte of it. -/
theorem atR_scaled (q : Nat) (hq : 1 ≤ q) : ∀ (l : List (Nat × Int)) (n d : Nat), d < q → atR q (n * q + d) l = atR 1 n l
  | [], _, _, _ => rfl
  | x :: r, n, d, hd => by
    simp only [atR, Nat.mul_one]
    by_cases hlt : n < x.1
    · have : (n + 1) * q ≤ x.1 * q := Nat.mul_le_mul_right q hlt
      rw [Nat.add_mul, Nat.one_mul] at this
      rw [if_pos hlt, if_pos (by omega)]
    · have : x.1 * q ≤ n * q := Nat.mul_le_mul_right q (by omega)
      rw [if_neg hlt, if_neg (by omega)]
      have e : n * q + d - x.1 * q = (n - x.1) * q + d := by rw [Nat.sub_mul]; omega
      rw [e]
      exact atR_scaled q hq r _ d hd

/-- A table is short. -/
theorem tab_length : ∀ (r : List (Nat × Nat)), (∀ x ∈ r, x.1 < 4294967296 ∧ x.2 < 4294967296) → (tab r).length ≤ 10 * r.length
  | [], _ => by simp [tab]
  | x :: r, h => by
    have ih := tab_length r fun y hy => h y (List.mem_cons_of_mem _ hy)
    obtain ⟨h1, h2⟩ := h x List.mem_cons_self
    have l1 := uvarint_short h1
    have l2 := uvarint_short h2
    simp only [tab, List.length_append, List.length_cons]
    omega
theorem ents_length : ∀ (l : List (Nat × Int)) (p : Int), (ents p l).length = l.length
  | [], _ => rfl
  | x :: r, p => by simp [ents, ents_length r x.2]
theorem ents_fit {q : Nat} : ∀ {r : List (Nat × Nat)} {first : Bool} {pc : Nat}, Fit q first pc r → ∀ x ∈ r, x.1 < 4294967296 ∧ x.2 < 4294967296
  | [], _, _, _, _, hx => by cases hx
  | y :: r, _, _, h, x, hx => by
    rcases List.mem_cons.1 hx with rfl | hx
    · exact ⟨h.1, h.2.1⟩
    · exact ents_fit h.2.2.2.2.2.2 x hx

end Go.Proofs.Ytfbnnbbjfjhkjaa
