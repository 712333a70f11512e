/- The walk of Read of the thin package (29). -/
import Derived.Test.YtfbnnbbjfjhkjaaZrd
namespace Go.Proofs.Ytfbnnbbjfjhkjaa
open Go.RowKit
set_option linter.unusedVariables false

theorem Try.info58 : (Try.prog.info? 58).map (fun i => (i.zero, i.size, i.bytes)) = some (some (.agg #[.int .i32 0, .int .u32 0, .int .u32 0]), 3, 12) := by kernel_rfl

/-- The cells of ranges. -/
def flat : List (Int × Nat × Nat) → List Value
  | [] => []
  | d :: r => .int .i32 d.1 :: .int .u32 (d.2.1 : Int) :: .int .u32 (d.2.2 : Int) :: flat r
theorem flat_snoc (d : Int × Nat × Nat) : ∀ l, flat (l ++ [d]) = flat l ++ [.int .i32 d.1, .int .u32 (d.2.1 : Int), .int .u32 (d.2.2 : Int)]
  | [] => rfl
  | x :: r => by simp [flat, flat_snoc d r]

/-- What a call hands back that tells ranges in one row. -/
def RangesPost (all : List (Int × Nat × Nat)) (w : World) (en : Ending) (w' : World) : Prop :=
  ∃ A n c, en = .returned (.slice A n c) ∧ Reads w' w'.heap.size 3 A n (flat all) ∧ n = all.length ∧ n ≤ c ∧ c ≤ maxLen ∧ Below w.heap.size w w'

/-- The relation of Read's loop. -/
def OutRel (w0 : World) (H : Nat) (all : List (Int × Nat × Nat)) (k : Nat) (v8 v22 : Value) (wr : World) : Prop :=
  ∃ i : Nat, i + k = all.length ∧ v22 = .int .i64 (i : Int) ∧ wr.ownsRow H 58 3 v8 i (flat (all.take i)) ∧ Below H w0 wr

theorem OutRel.post {w w0 w' : World} {all : List (Int × Nat × Nat)} {v8 v22 : Value} (hb : Below w.heap.size w w0) (h : OutRel w0 w0.heap.size all 0 v8 v22 w') : RangesPost all w (.returned v8) w' := by
  obtain ⟨i, hi, rfl, hown, hbel⟩ := h
  obtain rfl : i = all.length := by omega
  rw [List.take_length] at hown
  obtain ⟨A, c, rfl, h1, h2⟩ := own_form hown
  exact ⟨A, _, c, rfl, Reads.of_own hown, rfl, h1, h2, hb.trans (hbel.mono hb.size)⟩
theorem OutRel.next {w0 wr : World} {all : List (Int × Nat × Nat)} {k i : Nat} {v8 : Value} {d : Int × Nat × Nat} (hi : i + (k + 1) = all.length) (hd : all[i]? = some d)
    (hown : wr.ownsRow w0.heap.size 58 3 v8 (i + 1) (flat (all.take i) ++ [.int .i32 d.1, .int .u32 (d.2.1 : Int), .int .u32 (d.2.2 : Int)])) (hbel : Below w0.heap.size w0 wr) :
    OutRel w0 w0.heap.size all k v8 (.int .i64 ((i : Int) + 1)) wr := by
  refine ⟨i + 1, by omega, rfl, ?_, hbel⟩
  have hlt : i < all.length := by omega
  rw [List.getElem?_eq_getElem hlt] at hd
  injection hd with hd
  rw [← flat_snoc, ← hd, ← List.take_succ_eq_append_getElem hlt] at hown
  exact hown

set_option maxRecDepth 100000 in
set_option maxHeartbeats 4000000 in
theorem read_any (A : Option Addr) (n c q : Nat) (p : Nat × Nat) (r : List (Nat × Nat)) (w : World)
    (hb : Bs w w.heap.size A n c (tab (p :: r) ++ [0])) (hf : Fit q true 0 (p :: r)) (hfin : fin q 0 (p :: r) < 4294967296) (hq : q < 4294967296) (hlen : (p :: r).length ≤ 4294967296) (hn : n ≤ 140737488355328) :
    Calls Try.prog 29 #[.slice A n c, .int .u32 (q : Int)] w (RangesPost (rng q 0 (-1) (p :: r)) w) := by
  have hb1 := hb.alloc (Nat.le_refl _) (.cells #[] 5)
  have HB1 := Lib.hid ((Below.refl w.heap.size w).alloc (Nat.le_refl _) (.cells #[] 5))
  have H34 : Hid (∀ A n c W, Bs W W.heap.size A n c (tab (p :: r) ++ [0]) → Calls Try.prog 34 #[.slice A n c, .int .u32 (q : Int)] W (ReadPost (rng q 0 (-1) (p :: r)) W)) := Lib.hid fun A n c W hb => zzread_any A n c q p r W hb hf hfin hq hlen
  have hll : (rng q 0 (-1) (p :: r)).length ≤ 4294967296 := by rw [rng_length]; exact hlen
  obtain ⟨all, hall⟩ : ∃ all, rng q 0 (-1) (p :: r) = all := ⟨_, rfl⟩
  rw [hall] at H34 hll ⊢
  have HLL := Lib.hid hll
  clear hb hf hfin hlen hall hll
  generalize tab (p :: r) ++ [0] = T at *
  go_enter Try.func29, Try.ntmps29
  go_wp2_with (at_builtin; refine append_bytes (w0 := w) rfl _ _ rfl (l := []) rfl (own_empty w 5 w.heap.size (Nat.le_refl _)) HB1.out rfl hb1 ?c1 ?_)
  case c1 => omega
  intro A1 n1 c1 w1 hown1 hbel1 _
  have HO := Lib.hid hown1
  have HB2 := Lib.hid hbel1
  clear hown1 hbel1 hb1
  go_wp2_with fail
  refine (H34.out _ _ _ w1 (Bs.of_own HO.out)).mono ?_
  rintro en w3 ⟨A4, c4, A5, c5, A6, c6, m, rfl, i4, i5, i6, hbel⟩
  have HB3 := Lib.hid (HB2.out.trans (hbel.mono HB2.out.size))
  have hm : m = all.length := by have := i4.len; simp [col1] at this; exact this.symm
  have hcap := i4.cap
  have hbig := i4.big
  unfold maxLen at hbig
  have HM := Lib.hid hm
  have HI4 := Lib.hid i4
  have HI5 := Lib.hid i5
  have HI6 := Lib.hid i6
  have HST : Hid (OutRel w3 w3.heap.size all m (.slice none 0 0) (.int .i64 0) w3) := Lib.hid ⟨0, by omega, rfl, World.ownsRow_nil _ _ _ _, Below.refl _ _⟩
  clear hbel hm i4 i5 i6 HO HB1 HB2 H34
  go_wp2_with fail
  go_loopg [8, 22] m (fun k v8 v22 wr => OutRel w3 w3.heap.size all k v8 v22 wr)
  case atStart => exact HST.out
  case round =>
    clear HST
    cases gk with
    | zero =>
      have HP : Hid (RangesPost all w (.returned u8) wr) := Lib.hid (OutRel.post HB3.out hrel)
      obtain ⟨i, hi, rfl, hown, hbel⟩ := hrel
      have hin : ¬ i < m := by have := HM.out; omega
      clear hown hbel hi
      go_wp2_with fail
      go_ret
      exact HP.out
    | succ k =>
      obtain ⟨i, hi, rfl, hown, hbel⟩ := hrel
      have hil : i < all.length := by omega
      have hin : i < m := by have := HM.out; omega
      obtain ⟨⟨dv, db, de⟩, hd⟩ : ∃ d, all[i]? = some d := ⟨_, List.getElem?_eq_getElem hil⟩
      have hd' : all[i] = (dv, db, de) := by rw [List.getElem?_eq_getElem hil] at hd; injection hd
      have b4 := HI4.out.below hbel
      have b5 := HI5.out.below hbel
      have b6 := HI6.out.below hbel
      obtain ⟨g4, o4, rfl, hg4, k4⟩ := b4.cells (by omega)
      obtain ⟨g5, o5, rfl, hg5, k5⟩ := b5.cells (by omega)
      obtain ⟨g6, o6, rfl, hg6, k6⟩ := b6.cells (by omega)
      have x4 : wr.cell? ⟨g4, o4 + i, none⟩ = some (.int .i32 dv) := by rw [k4 i (by simpa [col1] using hil)]; simp [col1, hd']
      have x5 : wr.cell? ⟨g5, o5 + i, none⟩ = some (.int .u32 (db : Int)) := by rw [k5 i (by simpa [col2] using hil)]; simp [col2, hd']
      have x6 : wr.cell? ⟨g6, o6 + i, none⟩ = some (.int .u32 (de : Int)) := by rw [k6 i (by simpa [col3] using hil)]; simp [col3, hd']
      have hsz := hbel.size
      have z5 : ∀ o, (wr.alloc o).cell? ⟨g5, o5 + i, none⟩ = some (.int .u32 (db : Int)) := fun o => (World.cell?_alloc_lt wr o ⟨g5, o5 + i, none⟩ (by show g5 < wr.heap.size; omega)).trans x5
      have z6 : ∀ o, (wr.alloc o).cell? ⟨g6, o6 + i, none⟩ = some (.int .u32 (de : Int)) := fun o => (World.cell?_alloc_lt wr o ⟨g6, o6 + i, none⟩ (by show g6 < wr.heap.size; omega)).trans x6
      have n5 : some g5 ≠ u8.ownBlock := fun e => by have := (hown.lt g5 e.symm).1; omega
      have n6 : some g6 ≠ u8.ownBlock := fun e => by have := (hown.lt g6 e.symm).1; omega
      have hl1 : i + 1 ≤ maxLen := by have := HLL.out; unfold maxLen; omega
      have hl2 : (i + 1) * 12 ≤ 140737488355328 := by have := HLL.out; omega
      have t5 : ∀ o, g5 < (wr.alloc o).heap.size := fun o => by simp; omega
      have t6 : ∀ o, g6 < (wr.alloc o).heap.size := fun o => by simp; omega
      have hs8 : ∀ o, w3.heap.size ≤ (wr.alloc o).heap.size := fun o => by simp; omega
      have Z5 := Lib.hid z5
      have Z6 := Lib.hid z6
      have T5 := Lib.hid t5
      have T6 := Lib.hid t6
      have N5 := Lib.hid n5
      have N6 := Lib.hid n6
      have S8 := Lib.hid hs8
      have L1 := Lib.hid hl1
      have L2 := Lib.hid hl2
      have HI := Lib.hid hi
      have HD := Lib.hid hd
      have HOWN := Lib.hid hown
      have HBEL := Lib.hid hbel
      have hi1 : (i : Int) < (m : Int) := by omega
      have hi0 : (0 : Int) ≤ (i : Int) := by omega
      clear hi hd hd' hown hbel k4 k5 k6 hil b4 b5 b6 z5 z6 n5 n6 hl1 hl2 t5 t6 hsz hs8
      obtain ⟨ti, ti0, tz0, tz1, tz2⟩ := info_parts Try.info58
      have TI := Lib.hid ti0
      have TZ := Lib.hid tz0
      have TS := Lib.hid tz1
      have TB := Lib.hid tz2
      clear ti0 tz0 tz1 tz2
      go_wp2_with fail
      go_region_held3 (fun w' => w'.cell? ⟨g5, o5 + i, none⟩ = some (.int .u32 (db : Int)) ∧ w'.cell? ⟨g6, o6 + i, none⟩ = some (.int .u32 (de : Int)))
        (first
          | exact ⟨(hgrow.cell_far _ (T5.out _) N5.out).trans (Z5.out _), (hgrow.cell_far _ (T6.out _) N6.out).trans (Z6.out _)⟩
          | exact ⟨x5, x6⟩
          | exact ⟨Z5.out _, Z6.out _⟩
          | fail)
        ((refine step_append_lies _ (by rfl) _ _ _ (by rfl) w3.heap.size 58 ti _ 3 12 Try.underlying55 TI.out TZ.out TS.out TB.out rfl (by omega) u8 i (flat (all.take i)) (by rfl) ((HOWN.out.alloc _).drew) ⟨wr.heap.size, 0, none⟩ 1 1 [.int .i32 dv, .int .u32 (db : Int), .int .u32 (de : Int)] (by rfl) (by rfl) (World.news_of_block (cs := #[.int .i32 dv, .int .u32 (db : Int), .int .u32 (de : Int)]) (t := 58) (fr := (0, 0)) (heap_alloc_new wr _)) (by simp [Value.oneCell']) (by omega) L1.out L2.out (S8.out _) (wr.heap.size + 1) (by simp) ?_; intro gg cap w4 hown4 hgrow hat hlt))
      have HN : Hid (OutRel w3 w3.heap.size all k (.slice (some ⟨gg, 0, none⟩) (i + 1) cap) (.int .i64 ((i : Int) + 1)) w4) := by
        have hb4 := HBEL.out.alloc HBEL.out.size (.cells #[.int .i32 dv, .int .u32 (db : Int), .int .u32 (de : Int)] 58)
        have hb5 : Below w3.heap.size w3 (wr.alloc (.cells #[.int .i32 dv, .int .u32 (db : Int), .int .u32 (de : Int)] 58)).drew := ⟨hb4.os, hb4.tape, hb4.output, hb4.size, hb4.block⟩
        exact Lib.hid (OutRel.next HI.out HD.out hown4 (below_append hb5 ((HOWN.out.alloc _).drew) (Nat.le_refl _) (S8.out _) hgrow))
      clear hown4 hgrow hat hlt
      go_wp2_with fail
      go_roundg k
      case measure => omega
      case rel => exact HN.out
end Go.Proofs.Ytfbnnbbjfjhkjaa
