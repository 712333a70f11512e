/- Plain facts on memory: a slice of integers. -/
import Derived.Test.YtfbnnbbjfjhkjaaMem
import Derived.OpenShut
namespace Go.Proofs.Ytfbnnbbjfjhkjaa
open Go.RowKit

/-- Integers in memory: the slice of address A, n elements and capacity c holds the numbers l of kind k, below block B. -/
structure Is (w : World) (B : Nat) (A : Option Addr) (n c : Nat) (k : IntKind) (l : List Int) : Prop where
  len : l.length = n
  cap : n ≤ c
  big : c ≤ maxLen
  cells : 0 < n → ∃ g o, A = some ⟨g, o, none⟩ ∧ g < B ∧ ∀ j (hj : j < l.length), w.cell? ⟨g, o + j, none⟩ = some (.int k l[j])

section
variable {w w' : World} {B B' n c : Nat} {A : Option Addr} {k : IntKind} {l : List Int}
theorem Is.reads (h : Is w B A n c k l) : Reads w B 1 A n (l.map (Value.int k)) :=
  ⟨by rw [List.length_map, h.len, Nat.mul_one], fun hn => by
    obtain ⟨g, o, e, hb, hc⟩ := h.cells hn
    refine ⟨g, o, e, hb, fun j u hu => ?_⟩
    simp only [List.getElem?_map, Option.map_eq_some_iff] at hu
    obtain ⟨b, hb, rfl⟩ := hu
    obtain ⟨hj, rfl⟩ := List.getElem?_eq_some_iff.1 hb
    exact hc j hj⟩
theorem Is.of_reads (h : Reads w B 1 A n (l.map (Value.int k))) (hc : n ≤ c) (hb : c ≤ maxLen) : Is w B A n c k l :=
  ⟨by have := h.1; rw [List.length_map] at this; omega, hc, hb, fun hn => by
    obtain ⟨g, o, e, hb, hc⟩ := h.2 hn
    refine ⟨g, o, e, hb, fun j hj => hc j _ ?_⟩
    simp [List.getElem?_eq_getElem hj]⟩
theorem Is.keep (h : Is w B A n c k l) (hk : ∀ p : Addr, p.block < B → w'.cell? p = w.cell? p) : Is w' B A n c k l := .of_reads (h.reads.keep hk) h.cap h.big
theorem Is.more (h : Is w B A n c k l) (hB : B ≤ B') : Is w B' A n c k l := .of_reads (h.reads.more hB) h.cap h.big
theorem Is.below (h : Is w B A n c k l) (hb : Below B w w') : Is w' B A n c k l := h.keep fun _ hp => hb.cell hp
theorem Is.alloc (h : Is w B A n c k l) (hB : B ≤ w.heap.size) (o : Obj) : Is (w.alloc o) B A n c k l := .of_reads (h.reads.alloc hB o) h.cap h.big
theorem Is.grown {row : Option Nat} (h : Is w B A n c k l) (hg : w.grownBy w' row) (hB : B ≤ w.heap.size) (hr : ∀ g, row = some g → B ≤ g) : Is w' B A n c k l :=
  h.keep fun p hp => hg.cell_far p (by omega) (fun e => by have := hr _ e.symm; omega)
theorem Is.of_own {base : Nat} {e : TypeId} (h : w.ownsRow base e 1 (.slice A n c) n (l.map (Value.int k))) : Is w w.heap.size A n c k l := by
  refine .of_reads (Reads.of_own h) ?_ ?_
  · rcases h.2 with ⟨e, _⟩ | ⟨g, cap, cur, e, _, _, h1, h2, _⟩
    · injection e with _ e1 e2; subst e1; exact Nat.zero_le _
    · injection e with _ _ e2; subst e2; exact h1
  · rcases h.2 with ⟨e, _⟩ | ⟨g, cap, cur, e, _, _, h1, h2, _⟩
    · injection e with _ e1 e2; subst e2; exact Nat.zero_le _
    · injection e with _ _ e2; subst e2; exact h2
end
theorem ints_one (k : IntKind) (l : List Int) : ∀ u ∈ l.map (Value.int k), u.oneCell' = true := by
  intro u hu
  simp only [List.mem_map] at hu
  obtain ⟨b, _, rfl⟩ := hu
  rfl
end Go.Proofs.Ytfbnnbbjfjhkjaa
