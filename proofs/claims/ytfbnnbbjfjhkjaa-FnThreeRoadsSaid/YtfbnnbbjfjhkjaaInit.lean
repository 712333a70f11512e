/- The walks of NewPCIter (40) and Init (41). -/
import Derived.Test.YtfbnnbbjfjhkjaaIter
import Derived.Test.YtfbnnbbjfjhkjaaRng
namespace Go.Proofs.Ytfbnnbbjfjhkjaa
open Go.RowKit
set_option linter.unusedVariables false

theorem Only.trans {g : Nat} {a b c : World} (h : Only g a b) (h2 : Only g b c) : Only g a c := ⟨h.1.trans h2.1, h2.2.1.trans h.2.1, fun k hk => (h2.2.2 k hk).trans (h.2.2 k hk)⟩

def NewPost (q : Int) (w : World) (en : Ending) (w' : World) : Prop :=
  en = .returned (.pointer (some ⟨w.heap.size, 0, none⟩)) ∧ Blk w' w.heap.size 94 (itCells (.slice none 0 0) 0 0 q 0 false false) ∧ Below w.heap.size w w' ∧ w'.heap.size = w.heap.size + 1

set_option maxRecDepth 100000 in
theorem new_any (q : Int) (w : World) : Calls Try.prog 40 #[.int .u32 q] w (NewPost q w) := by
  go_enter Try.func40, Try.ntmps40
  go_wp2_with fail
  go_ret
  exact ⟨rfl, Blk.new w 94 (itCells (.slice none 0 0) 0 0 q 0 false false), (Below.refl w.heap.size w).alloc (Nat.le_refl _) _, by simp⟩

set_option maxRecDepth 100000 in
set_option maxHeartbeats 4000000 in
theorem init_any (g n c H q z m : Nat) (A : Option Addr) (cs : Array Value) (rest : List UInt8) (w : World)
    (hg : Blk w g 94 (itCells (.slice none 0 0) 0 0 q 0 false false)) (hb : Bs w H A n c (Lib.uvarint z ++ (Lib.uvarint m ++ rest))) (hH : H ≤ g) (hr : 0 < rest.length)
    (hz : z < 4294967296) (hm : m < 4294967296) (hnx : 0 + m * q < 4294967296) (hq : q < 4294967296) :
    Calls Try.prog 41 #[.pointer (some ⟨g, 0, none⟩), .slice A n c] w (ItPost g H 0 q m (wrap32 (-1 + zag z)) rest w) := by
  have h0 : w.cell? ⟨g, 0, none⟩ = some (.slice none 0 0) := hg.cell 0
  have h1 : w.cell? ⟨g, 1, none⟩ = some (.int .u32 0) := hg.cell 1
  have h2 : w.cell? ⟨g, 2, none⟩ = some (.int .u32 0) := hg.cell 2
  have h4 : w.cell? ⟨g, 4, none⟩ = some (.int .i32 0) := hg.cell 4
  have h5 : w.cell? ⟨g, 5, none⟩ = some (.bool false) := hg.cell 5
  have h6 : w.cell? ⟨g, 6, none⟩ = some (.bool false) := hg.cell 6
  have f0 : w.frozen? ⟨g, 0, none⟩ = false := hg.free 0
  have f1 : w.frozen? ⟨g, 1, none⟩ = false := hg.free 1
  have f2 : w.frozen? ⟨g, 2, none⟩ = false := hg.free 2
  have f4 : w.frozen? ⟨g, 4, none⟩ = false := hg.free 4
  have f5 : w.frozen? ⟨g, 5, none⟩ = false := hg.free 5
  have f6 : w.frozen? ⟨g, 6, none⟩ = false := hg.free 6
  have HB := Lib.hid hb
  have HG := Lib.hid hg
  have HN : Hid (∀ W, Only g w W → Blk W g 94 (itCells (.slice A n c) 0 0 q (-1) true false) → Calls Try.prog 42 #[.pointer (some ⟨g, 0, none⟩)] W (ItPost g H 0 q m (wrap32 (-1 + zag z)) rest W)) :=
    Lib.hid fun W hW hk => iter_more g n c H 0 q z m A 0 (-1) true rest W hk (hW.bs HB.out hH) hH hr hz hm (.inl rfl) hnx hq (by omega)
  clear hg hb hz hm hnx hq hr
  go_enter Try.func41, Try.ntmps41
  go_wp2_with fail
  refine (HN.out _ ((((((Only.refl g w).set_ 0 _).set_ 1 _).set_ 2 _).set_ 4 _).set_ 5 _ |>.set_ 6 _) ((((((HG.out.set_ 0 _).set_ 1 _).set_ 2 _).set_ 4 _).set_ 5 _).set_ 6 _)).mono ?_
  rintro en w1 ⟨rfl, A', n', c', k1, k2, k3⟩
  have HK1 := Lib.hid k1
  have HK2 := Lib.hid k2
  have HK3 := Lib.hid k3
  clear k1 k2 k3
  go_wp2_with fail
  all_goals
    (try simp only [Exit.inBlock, Exit.then]); refine bodyPost_end (results_none rfl _ _ _) rfl ?_
    exact ⟨rfl, _, _, _, HK1.out, HK2.out, ((((((Only.refl g w).set_ 0 _).set_ 1 _).set_ 2 _).set_ 4 _).set_ 5 _ |>.set_ 6 _).trans HK3.out⟩
end Go.Proofs.Ytfbnnbbjfjhkjaa
