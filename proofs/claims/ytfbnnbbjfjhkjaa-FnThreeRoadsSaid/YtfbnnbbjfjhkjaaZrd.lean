/- The walk of ZZRead (34). -/
import Derived.Test.YtfbnnbbjfjhkjaaRst
import Derived.Deep.RegionHeld3
import Derived.Deep.CutRange
import Derived.Deep.CutBlock
namespace Go.Proofs.Ytfbnnbbjfjhkjaa
open Go.RowKit
set_option linter.unusedVariables false

/-- The three columns of ranges. -/
def col1 (ds : List (Int × Nat × Nat)) : List Int := ds.map (·.1)
def col2 (ds : List (Int × Nat × Nat)) : List Int := ds.map fun d => (d.2.1 : Int)
def col3 (ds : List (Int × Nat × Nat)) : List Int := ds.map fun d => (d.2.2 : Int)

/-- What a call hands back that tells ranges in three rows. -/
def ReadPost (all : List (Int × Nat × Nat)) (w : World) (en : Ending) (w' : World) : Prop :=
  ∃ A4 c4 A5 c5 A6 c6 n, en = .returned (.tuple #[.slice A4 n c4, .slice A5 n c5, .slice A6 n c6]) ∧ Is w' w'.heap.size A4 n c4 .i32 (col1 all) ∧ Is w' w'.heap.size A5 n c5 .u32 (col2 all) ∧ Is w' w'.heap.size A6 n c6 .u32 (col3 all) ∧ Below w.heap.size w w'

/-- The relation of ZZRead's loop: k ranges are still to come. -/
def RdDone (w0 : World) (B g q : Nat) (all : List (Int × Nat × Nat)) (v4 v5 v6 : Value) (wr : World) : Prop :=
  ∃ p pc nx v, St w0 B g (itCells p pc nx q v false true) v4 v5 v6 (col1 all) (col2 all) (col3 all) [] wr
def RdMore (w0 : World) (B g q : Nat) (all : List (Int × Nat × Nat)) (k : Nat) (v4 v5 v6 : Value) (wr : World) : Prop :=
  ∃ (ds : List (Int × Nat × Nat)) (A : Option Addr) (n c e nx : Nat) (v : Int) (rest : List (Nat × Nat)),
    all = ds ++ (v, e, nx) :: rng q nx v rest ∧ rest.length = k ∧ St w0 B g (itCells (.slice A n c) (e : Int) (nx : Int) q v false false) v4 v5 v6 (col1 ds) (col2 ds) (col3 ds) [] wr ∧
    Bs w0 B A n c (tab rest ++ [0]) ∧ Fit q false nx rest ∧ fin q nx rest < 4294967296 ∧ -2147483648 ≤ v ∧ v ≤ 2147483647
def RdRel (w0 : World) (B g q : Nat) (all : List (Int × Nat × Nat)) (k : Nat) (v4 v5 v6 : Value) (wr : World) : Prop :=
  match k with
  | 0 => RdDone w0 B g q all v4 v5 v6 wr
  | k + 1 => RdMore w0 B g q all k v4 v5 v6 wr

def RdPost (w0 : World) (B g q : Nat) (all : List (Int × Nat × Nat)) (k : Nat) (v4 v5 v6 : Value) (en : Ending) (w' : World) : Prop :=
  en = .returned (.tuple #[]) ∧ RdRel w0 B g q all k v4 v5 v6 w'

theorem next_rd {w0 W : World} {B g q n c e nx k : Nat} {A : Option Addr} {v : Int} {all ds : List (Int × Nat × Nat)} {rest : List (Nat × Nat)} {v4 v5 v6 : Value}
    (hall : all = ds ++ (v, e, nx) :: rng q nx v rest) (hk : rest.length = k)
    (hst : St w0 B g (itCells (.slice A n c) (e : Int) (nx : Int) q v false false) v4 v5 v6 (col1 ds ++ [v]) (col2 ds ++ [(e : Int)]) (col3 ds ++ [(nx : Int)]) [] W)
    (hb : Bs w0 B A n c (tab rest ++ [0])) (hf : Fit q false nx rest) (hfin : fin q nx rest < 4294967296) (hv : -2147483648 ≤ v ∧ v ≤ 2147483647) (hq : q < 4294967296) :
    Calls Try.prog 42 #[.pointer (some ⟨g, 0, none⟩)] W (RdPost w0 B g q all k v4 v5 v6) := by
  have e1 : col1 ds ++ [v] = col1 (ds ++ [(v, e, nx)]) := by simp [col1]
  have e2 : col2 ds ++ [(e : Int)] = col2 (ds ++ [(v, e, nx)]) := by simp [col2]
  have e3 : col3 ds ++ [(nx : Int)] = col3 (ds ++ [(v, e, nx)]) := by simp [col3]
  rw [e1, e2, e3] at hst
  have hbW := hb.below hst.bel
  cases rest with
  | nil =>
    obtain rfl : k = 0 := by simpa using hk.symm
    rw [hall, rng]
    refine (iter_end g n c B A e nx q v W hst.blk hbW hst.le).mono ?_
    rintro en w' ⟨rfl, p, h1, h2⟩
    exact ⟨rfl, p, nx, nx, v, hst.only h2 h1⟩
  | cons x r =>
    obtain ⟨f1, f2, f3, f4, f5, f6, f7⟩ := hf
    have hfl := fin_le q r (nx + x.2 * q)
    rw [fin] at hfin
    obtain ⟨k, rfl⟩ : ∃ k', k = k' + 1 := ⟨r.length, by simpa using hk.symm⟩
    have ht : tab (x :: r) ++ [0] = Lib.uvarint x.1 ++ (Lib.uvarint x.2 ++ (tab r ++ [0])) := by simp [tab]
    rw [ht] at hbW
    refine (iter_more g n c B nx q x.1 x.2 A e v false (tab r ++ [0]) W hst.blk hbW hst.le (by simp) f1 f2 (.inr (f6.resolve_left (by simp))) (by omega) hq hv).mono ?_
    rintro en w' ⟨rfl, A', n', c', h1, h2, h3⟩
    have hw := wrap32_range (v + zag x.1)
    refine ⟨rfl, ds ++ [(v, e, nx)], A', n', c', nx, nx + x.2 * q, wrap32 (v + zag x.1), r, ?_, by simpa using hk, hst.only h3 h1, ?_, f7, hfin, hw.1, hw.2⟩
    · rw [hall, rng]
      simp
    · exact h2.back (hst.bel.trans (h3.1.mono hst.le))


theorem RdDone.post {w w' : World} {g q : Nat} {all : List (Int × Nat × Nat)} {v4 v5 v6 : Value} (h : RdDone w w.heap.size g q all v4 v5 v6 w') : ReadPost all w (.returned (.tuple #[v4, v5, v6])) w' := by
  obtain ⟨p, pc, nx, v, hst⟩ := h
  obtain ⟨A4, c4, rfl, -, -⟩ := own_form hst.o4
  obtain ⟨A5, c5, rfl, -, -⟩ := own_form hst.o5
  obtain ⟨A6, c6, rfl, -, -⟩ := own_form hst.o6
  have h4 := Is.of_own hst.o4
  have h5 := Is.of_own hst.o5
  have h6 := Is.of_own hst.o6
  have e1 : (col1 all).length = all.length := by simp [col1]
  have e2 : (col2 all).length = all.length := by simp [col2]
  have e3 : (col3 all).length = all.length := by simp [col3]
  rw [e1] at h4 ⊢
  rw [e2] at h5 ⊢
  rw [e3] at h6 ⊢
  exact ⟨_, _, _, _, _, _, _, rfl, h4, h5, h6, hst.bel⟩

set_option maxRecDepth 100000 in
set_option maxHeartbeats 16000000 in
theorem zzread_any (A : Option Addr) (n c q : Nat) (p : Nat × Nat) (r : List (Nat × Nat)) (w : World)
    (hb : Bs w w.heap.size A n c (tab (p :: r) ++ [0])) (hf : Fit q true 0 (p :: r)) (hfin : fin q 0 (p :: r) < 4294967296) (hq : q < 4294967296) (hlen : (p :: r).length ≤ 4294967296) :
    Calls Try.prog 34 #[.slice A n c, .int .u32 (q : Int)] w (ReadPost (rng q 0 (-1) (p :: r)) w) := by
  obtain ⟨f1, f2, f3, f4, f5, f6, f7⟩ := hf
  have hfl := fin_le q r (0 + p.2 * q)
  rw [fin] at hfin
  obtain ⟨all, hall⟩ : ∃ all, rng q 0 (-1) (p :: r) = all := ⟨_, rfl⟩
  have ht : tab (p :: r) ++ [0] = Lib.uvarint p.1 ++ (Lib.uvarint p.2 ++ (tab r ++ [0])) := by simp [tab]
  have hlen' : all.length ≤ 4294967296 := by rw [← hall, rng_length]; exact hlen
  rw [ht] at hb
  rw [hall]
  have H41 : Hid (∀ W, Below w.heap.size w W → Blk W w.heap.size 94 (itCells (.slice none 0 0) 0 0 q 0 false false) → Calls Try.prog 41 #[.pointer (some ⟨w.heap.size, 0, none⟩), .slice A n c] W (ItPost w.heap.size w.heap.size 0 q p.2 (wrap32 (-1 + zag p.1)) (tab r ++ [0]) W)) :=
    Lib.hid fun W hW hk => init_any w.heap.size n c w.heap.size q p.1 p.2 A #[] (tab r ++ [0]) W hk (hb.below hW) (Nat.le_refl _) (by simp) f1 f2 (by omega) hq
  have HST : Hid (∀ w1 w2, Below w.heap.size w w1 → w1.heap.size = w.heap.size + 1 → (∃ A n c, Blk w2 w.heap.size 94 (itCells (.slice A n c) (0 : Nat) ((0 + p.2 * q : Nat) : Int) q (wrap32 (-1 + zag p.1)) false false) ∧ Bs w2 w.heap.size A n c (tab r ++ [0]) ∧ Only w.heap.size w1 w2) → RdRel w w.heap.size w.heap.size q all (r.length + 1) (.slice none 0 0) (.slice none 0 0) (.slice none 0 0) w2) := by
    refine Lib.hid fun w1 w2 h1 h2 ⟨A', n', c', k1, k2, k3⟩ => ?_
    have hw := wrap32_range (-1 + zag p.1)
    have hap : Apart (.slice none 0 0) (.slice none 0 0) := fun b h => by simp [Value.ownBlock] at h
    refine ⟨[], A', n', c', 0, 0 + p.2 * q, wrap32 (-1 + zag p.1), r, hall.symm, rfl, ⟨h1.trans k3.1, Nat.le_refl _, k1, World.ownsRow_nil _ _ _ _, World.ownsRow_nil _ _ _ _, World.ownsRow_nil _ _ _ _, hap, hap, hap, fun _ hx => by cases hx⟩, k2.back (h1.trans k3.1), f7, hfin, hw.1, hw.2⟩
  have HQ := Lib.hid hq
  have HL := Lib.hid hlen'
  clear hb f1 f2 f3 f4 f5 f6 f7 hfl hfin ht hall hlen hlen' hq
  generalize tab r ++ [0] = T at *
  generalize wrap32 (-1 + zag p.1) = V at *
  go_enter Try.func34, Try.ntmps34
  go_wp2_with fail
  refine (new_any _ w).mono ?_
  rintro en w1 ⟨rfl, k1, k2, k3⟩
  have HK1 := Lib.hid k1
  have HK2 := Lib.hid k2
  have HK3 := Lib.hid k3
  clear k1 k2 k3
  go_wp2_with fail
  refine (H41.out w1 HK2.out HK1.out).mono ?_
  rintro en w2 ⟨rfl, hit⟩
  have HR := Lib.hid (HST.out w1 w2 HK2.out HK3.out hit)
  clear hit HST HK1 HK2 HK3 H41
  go_wp2_with fail
  go_loopg [4, 5, 6] (r.length + 1) (fun k v4 v5 v6 wr => RdRel w w.heap.size w.heap.size q all k v4 v5 v6 wr)
  case atStart => exact HR.out
  case round =>
    clear HR
    cases gk with
    | zero =>
      have HP : Hid (ReadPost all w (.returned (.tuple #[u4, u5, u6])) wr) := Lib.hid (RdDone.post hrel)
      obtain ⟨p', pc, nx, v, hst⟩ := hrel
      have hd : wr.cell? ⟨w.heap.size, 6, none⟩ = some (.bool true) := hst.blk.cell 6
      clear hst
      go_wp2_with fail
      go_ret3
      exact HP.out
    | succ k =>
      obtain ⟨ds, A, n, c, e, nx, v, rest, hall, hk, hst, hb, hf, hfin, hv1, hv2⟩ := hrel
      have hd : wr.cell? ⟨w.heap.size, 6, none⟩ = some (.bool false) := hst.blk.cell 6
      have HS := Lib.hid hst
      clear hst
      have HL4 : Hid ((col1 ds).length + 1 ≤ 4294967296) := Lib.hid (by have := HL.out; rw [hall] at this; simp [col1] at this ⊢; omega)
      have HL5 : Hid ((col2 ds).length + 1 ≤ 4294967296) := Lib.hid (by have := HL.out; rw [hall] at this; simp [col2] at this ⊢; omega)
      have HL6 : Hid ((col3 ds).length + 1 ≤ 4294967296) := Lib.hid (by have := HL.out; rw [hall] at this; simp [col3] at this ⊢; omega)
      have HALL := Lib.hid hall
      have HK := Lib.hid hk
      have HB := Lib.hid hb
      have HF := Lib.hid hf
      have HFIN := Lib.hid hfin
      clear hall hk hb hf hfin
      go_upto_block 1 with fail
      go_cut [4, 5, 6] from 13 to 40 (fun x4 x5 x6 wx => St w w.heap.size w.heap.size (itCells (.slice A n c) (e : Int) (nx : Int) q v false false) x4 x5 x6 (col1 ds ++ [v]) (col2 ds ++ [(e : Int)]) (col3 ds ++ [(nx : Int)]) [] wx)
      case first =>
        go_upto_region 5 with fail
        have c4 : wr.cell? ⟨w.heap.size, 4, none⟩ = some (.int .i32 v) := HS.out.blk.cell 4
        have c1 : wr.cell? ⟨w.heap.size, 1, none⟩ = some (.int .u32 (e : Int)) := HS.out.blk.cell 1
        have c2 : wr.cell? ⟨w.heap.size, 2, none⟩ = some (.int .u32 (nx : Int)) := HS.out.blk.cell 2
        go_region_held3 (fun w' => w'.cell? ⟨w.heap.size, 4, none⟩ = some (.int .i32 v) ∧ w'.cell? ⟨w.heap.size, 1, none⟩ = some (.int .u32 (e : Int)) ∧ w'.cell? ⟨w.heap.size, 2, none⟩ = some (.int .u32 (nx : Int)))
          (first
            | (with_reducible exact (HS.out).c412)
            | (with_reducible exact (HS.out.build1).c412)
            | (with_reducible exact (HS.out.build2).c412)
            | (with_reducible exact (HS.out.build1.drew).c412)
            | (with_reducible exact (HS.out.build2.drew).c412)
            | (with_reducible exact (HS.out.build3.drew).c412)
            | (with_reducible exact (HS.out.drew).c412)
            | fail)
          (first
            | ((with_reducible refine step4 (o := ⟨some 26, _, _, _, _, _⟩) (y := v) (HS.out) HL4.out ?_ ?_ ?_ ?_ ?_); rfl; rfl; rfl; (refine ⟨_, rfl, ?_⟩; first | exact .head _ | exact .tail _ (.head _) | exact .tail _ (.tail _ (.head _))); intro vn wn hstn; clear HS; have HS := Lib.hid hstn; clear hstn)
            | ((with_reducible refine step4 (o := ⟨some 26, _, _, _, _, _⟩) (y := v) (HS.out.build1) HL4.out ?_ ?_ ?_ ?_ ?_); rfl; rfl; rfl; (refine ⟨_, rfl, ?_⟩; first | exact .head _ | exact .tail _ (.head _) | exact .tail _ (.tail _ (.head _))); intro vn wn hstn; clear HS; have HS := Lib.hid hstn; clear hstn)
            | ((with_reducible refine step4 (o := ⟨some 26, _, _, _, _, _⟩) (y := v) (HS.out.build2) HL4.out ?_ ?_ ?_ ?_ ?_); rfl; rfl; rfl; (refine ⟨_, rfl, ?_⟩; first | exact .head _ | exact .tail _ (.head _) | exact .tail _ (.tail _ (.head _))); intro vn wn hstn; clear HS; have HS := Lib.hid hstn; clear hstn)
            | ((with_reducible refine step4 (o := ⟨some 26, _, _, _, _, _⟩) (y := v) (HS.out.build1.drew) HL4.out ?_ ?_ ?_ ?_ ?_); rfl; rfl; rfl; (refine ⟨_, rfl, ?_⟩; first | exact .head _ | exact .tail _ (.head _) | exact .tail _ (.tail _ (.head _))); intro vn wn hstn; clear HS; have HS := Lib.hid hstn; clear hstn)
            | ((with_reducible refine step4 (o := ⟨some 26, _, _, _, _, _⟩) (y := v) (HS.out.build2.drew) HL4.out ?_ ?_ ?_ ?_ ?_); rfl; rfl; rfl; (refine ⟨_, rfl, ?_⟩; first | exact .head _ | exact .tail _ (.head _) | exact .tail _ (.tail _ (.head _))); intro vn wn hstn; clear HS; have HS := Lib.hid hstn; clear hstn)
            | ((with_reducible refine step4 (o := ⟨some 26, _, _, _, _, _⟩) (y := v) (HS.out.build3.drew) HL4.out ?_ ?_ ?_ ?_ ?_); rfl; rfl; rfl; (refine ⟨_, rfl, ?_⟩; first | exact .head _ | exact .tail _ (.head _) | exact .tail _ (.tail _ (.head _))); intro vn wn hstn; clear HS; have HS := Lib.hid hstn; clear hstn)
            | ((with_reducible refine step5 (o := ⟨some 33, _, _, _, _, _⟩) (y := (e : Int)) (HS.out) HL5.out ?_ ?_ ?_ ?_ ?_); rfl; rfl; rfl; (refine ⟨_, rfl, ?_⟩; first | exact .head _ | exact .tail _ (.head _) | exact .tail _ (.tail _ (.head _))); intro vn wn hstn; clear HS; have HS := Lib.hid hstn; clear hstn)
            | ((with_reducible refine step5 (o := ⟨some 33, _, _, _, _, _⟩) (y := (e : Int)) (HS.out.build1) HL5.out ?_ ?_ ?_ ?_ ?_); rfl; rfl; rfl; (refine ⟨_, rfl, ?_⟩; first | exact .head _ | exact .tail _ (.head _) | exact .tail _ (.tail _ (.head _))); intro vn wn hstn; clear HS; have HS := Lib.hid hstn; clear hstn)
            | ((with_reducible refine step5 (o := ⟨some 33, _, _, _, _, _⟩) (y := (e : Int)) (HS.out.build2) HL5.out ?_ ?_ ?_ ?_ ?_); rfl; rfl; rfl; (refine ⟨_, rfl, ?_⟩; first | exact .head _ | exact .tail _ (.head _) | exact .tail _ (.tail _ (.head _))); intro vn wn hstn; clear HS; have HS := Lib.hid hstn; clear hstn)
            | ((with_reducible refine step5 (o := ⟨some 33, _, _, _, _, _⟩) (y := (e : Int)) (HS.out.build1.drew) HL5.out ?_ ?_ ?_ ?_ ?_); rfl; rfl; rfl; (refine ⟨_, rfl, ?_⟩; first | exact .head _ | exact .tail _ (.head _) | exact .tail _ (.tail _ (.head _))); intro vn wn hstn; clear HS; have HS := Lib.hid hstn; clear hstn)
            | ((with_reducible refine step5 (o := ⟨some 33, _, _, _, _, _⟩) (y := (e : Int)) (HS.out.build2.drew) HL5.out ?_ ?_ ?_ ?_ ?_); rfl; rfl; rfl; (refine ⟨_, rfl, ?_⟩; first | exact .head _ | exact .tail _ (.head _) | exact .tail _ (.tail _ (.head _))); intro vn wn hstn; clear HS; have HS := Lib.hid hstn; clear hstn)
            | ((with_reducible refine step5 (o := ⟨some 33, _, _, _, _, _⟩) (y := (e : Int)) (HS.out.build3.drew) HL5.out ?_ ?_ ?_ ?_ ?_); rfl; rfl; rfl; (refine ⟨_, rfl, ?_⟩; first | exact .head _ | exact .tail _ (.head _) | exact .tail _ (.tail _ (.head _))); intro vn wn hstn; clear HS; have HS := Lib.hid hstn; clear hstn)
            | ((with_reducible refine step6 (o := ⟨some 40, _, _, _, _, _⟩) (y := (nx : Int)) (HS.out) HL6.out ?_ ?_ ?_ ?_ ?_); rfl; rfl; rfl; (refine ⟨_, rfl, ?_⟩; first | exact .head _ | exact .tail _ (.head _) | exact .tail _ (.tail _ (.head _))); intro vn wn hstn; clear HS; have HS := Lib.hid hstn; clear hstn)
            | ((with_reducible refine step6 (o := ⟨some 40, _, _, _, _, _⟩) (y := (nx : Int)) (HS.out.build1) HL6.out ?_ ?_ ?_ ?_ ?_); rfl; rfl; rfl; (refine ⟨_, rfl, ?_⟩; first | exact .head _ | exact .tail _ (.head _) | exact .tail _ (.tail _ (.head _))); intro vn wn hstn; clear HS; have HS := Lib.hid hstn; clear hstn)
            | ((with_reducible refine step6 (o := ⟨some 40, _, _, _, _, _⟩) (y := (nx : Int)) (HS.out.build2) HL6.out ?_ ?_ ?_ ?_ ?_); rfl; rfl; rfl; (refine ⟨_, rfl, ?_⟩; first | exact .head _ | exact .tail _ (.head _) | exact .tail _ (.tail _ (.head _))); intro vn wn hstn; clear HS; have HS := Lib.hid hstn; clear hstn)
            | ((with_reducible refine step6 (o := ⟨some 40, _, _, _, _, _⟩) (y := (nx : Int)) (HS.out.build1.drew) HL6.out ?_ ?_ ?_ ?_ ?_); rfl; rfl; rfl; (refine ⟨_, rfl, ?_⟩; first | exact .head _ | exact .tail _ (.head _) | exact .tail _ (.tail _ (.head _))); intro vn wn hstn; clear HS; have HS := Lib.hid hstn; clear hstn)
            | ((with_reducible refine step6 (o := ⟨some 40, _, _, _, _, _⟩) (y := (nx : Int)) (HS.out.build2.drew) HL6.out ?_ ?_ ?_ ?_ ?_); rfl; rfl; rfl; (refine ⟨_, rfl, ?_⟩; first | exact .head _ | exact .tail _ (.head _) | exact .tail _ (.tail _ (.head _))); intro vn wn hstn; clear HS; have HS := Lib.hid hstn; clear hstn)
            | ((with_reducible refine step6 (o := ⟨some 40, _, _, _, _, _⟩) (y := (nx : Int)) (HS.out.build3.drew) HL6.out ?_ ?_ ?_ ?_ ?_); rfl; rfl; rfl; (refine ⟨_, rfl, ?_⟩; first | exact .head _ | exact .tail _ (.head _) | exact .tail _ (.tail _ (.head _))); intro vn wn hstn; clear HS; have HS := Lib.hid hstn; clear hstn)
            | fail)
        all_goals
          go_wp2_with fail
          go_meet
          exact HS.out.none_
      case rest =>
        have HC := Lib.hid (next_rd HALL.out HK.out hcut HB.out HF.out HFIN.out ⟨hv1, hv2⟩ HQ.out)
        clear hcut
        go_wp2_with fail
        refine HC.out.mono ?_
        rintro en w3 ⟨rfl, hnext⟩
        have HN := Lib.hid hnext
        clear hnext
        go_wp2_with fail
        go_roundg k
        case measure => omega
        case rel => exact HN.out
end Go.Proofs.Ytfbnnbbjfjhkjaa
