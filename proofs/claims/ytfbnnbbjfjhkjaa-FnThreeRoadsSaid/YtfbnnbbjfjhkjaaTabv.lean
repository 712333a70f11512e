/- What the laws over runs use alike: the value at a place by the table of well runs, wherever the table stands. -/
import Derived.Test.YtfbnnbbjfjhkjaaAt
import Derived.Test.YtfbnnbbjfjhkjaaWell
namespace Go.Proofs.Ytfbnnbbjfjhkjaa
open Go.RowKit

theorem wellFrom_first {l : List (Nat × Int)} {p p' : Int} (h : WellFrom true p l) : WellFrom true p' l := by
  cases l with
  | nil => trivial
  | cons x r => exact ⟨⟨h.1.1, h.1.2.1, h.1.2.2.1, h.1.2.2.2.1, fun h => by cases h⟩, h.2⟩

/-- What is known of well runs, a good quantum and an entry with room. -/
structure Fine (q entry : Nat) (l : List (Nat × Int)) : Prop where
  well : WellFrom true 0 l
  short : l.length ≤ 1000
  some_ : l ≠ []
  q1 : 1 ≤ q
  q4 : q ≤ 4
  room : entry < 1152921504606846976

theorem Fine.mk_ {q entry n : Nat} {l : List (Nat × Int)} (hw : WellL l) (hl : l.length = n) (hn : n ≠ 0) (hg : (q = 1 ∨ q = 2 ∨ q = 4) ∧ entry < 1152921504606846976) : Fine q entry l :=
  ⟨wellFrom_of_well hw, hw.2, fun h => by subst h; exact hn hl.symm, by omega, by omega, hg.2⟩
theorem Fine.one {q entry : Nat} {l : List (Nat × Int)} (h : Fine q entry l) : Fine 1 entry l := ⟨h.well, h.short, h.some_, by omega, by omega, h.room⟩
theorem Fine.zero {q entry : Nat} {l : List (Nat × Int)} (h : Fine q entry l) : Fine q 0 l := ⟨h.well, h.short, h.some_, h.q1, h.q4, by omega⟩
theorem Fine.size {q entry : Nat} {l : List (Nat × Int)} (h : Fine q entry l) : sizeR q l ≤ 4194304000 := by
  have h1 := sizeR_le q l true 0 h.well
  have h2 := Nat.mul_le_mul h.short (Nat.mul_le_mul_left 1048576 h.q4)
  omega
theorem Fine.fit {q entry : Nat} {l : List (Nat × Int)} (h : Fine q entry l) : Fit q true entry (ents (-1) l) :=
  fit_ents q h.q1 h.q4 l true (-1) entry (wellFrom_first h.well) (by omega) (by omega) (fun e => absurd e h.some_) (by have := h.size; have := h.room; omega)
theorem Fine.look {q entry : Nat} {l : List (Nat × Int)} (h : Fine q entry l) (n : Nat) : look q (entry + n) entry (-1) (ents (-1) l) = atR q n l :=
  look_ents q h.q1 l true (-1) entry n (wellFrom_first h.well) (by omega) (by omega)
theorem Fine.tab_le {q entry : Nat} {l : List (Nat × Int)} (h : Fine q entry l) : (tab (ents (-1) l) ++ [0]).length ≤ 10001 := by
  have h1 := tab_length _ (ents_fit h.fit)
  have h2 := ents_length l (-1)
  have h3 := h.short
  simp only [List.length_append, List.length_cons, List.length_nil]
  omega

/-- 'Value' by the table of runs behind bytes 'ahead' and ahead of bytes 'behind'. -/
theorem value_runs (A : Option Addr) (n c q entry target N : Nat) (l : List (Nat × Int)) (ahead behind : List UInt8) (w : World)
    (hb : Bs w w.heap.size A n c (ahead ++ ((tab (ents (-1) l) ++ [0]) ++ behind))) (hf : Fine q entry l) (ht : target = entry + N) (ha : ahead.length < 4294967296) (hn : n ≤ 140737488355328) :
    Calls Try.prog 22 #[.slice A n c, .int .u32 (q : Int), .int .u32 (ahead.length : Int), .int .u64 (entry : Int), .int .u64 (target : Int)] w (IsPost w (.int .i32 (atR q N l))) := by
  have h := value_any A n c q entry target ahead behind (ents (-1) l) w (by simpa using hb) hf.fit ha (by have := hf.room; omega) hn
  rw [ht, hf.look N, ← ht] at h
  exact h
/-- The same, nothing ahead. -/
theorem value_runs0 (A : Option Addr) (n c q entry target N : Nat) (l : List (Nat × Int)) (behind : List UInt8) (w : World)
    (hb : Bs w w.heap.size A n c ((tab (ents (-1) l) ++ [0]) ++ behind)) (hf : Fine q entry l) (ht : target = entry + N) (hn : n ≤ 140737488355328) :
    Calls Try.prog 22 #[.slice A n c, .int .u32 (q : Int), .int .u32 0, .int .u64 (entry : Int), .int .u64 (target : Int)] w (IsPost w (.int .i32 (atR q N l))) :=
  value_runs A n c q entry target N l [] behind w hb hf ht (by decide) hn

end Go.Proofs.Ytfbnnbbjfjhkjaa
