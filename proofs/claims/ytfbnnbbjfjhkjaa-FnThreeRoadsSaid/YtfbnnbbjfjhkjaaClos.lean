/- The walks of the closure of ZZTable and of Func. -/
import Derived.Test.YtfbnnbbjfjhkjaaBuf
import Derived.Test.YtfbnnbbjfjhkjaaCwell
import Derived.Test.YtfbnnbbjfjhkjaaShelf
import Derived.Test.YtfbnnbbjfjhkjaaEmit
namespace Go.Proofs.Ytfbnnbbjfjhkjaa
open Go.RowKit
set_option linter.unusedVariables false

/-- A quiet call: a value is handed back, the world has at most drawn. -/
def QuietPost (w : World) (v : Value) (en : Ending) (w' : World) : Prop := ∃ n, en = .returned v ∧ w' = w.drewN n

set_option maxRecDepth 100000 in
set_option maxHeartbeats 400000 in
/-- The closure of ZZTable: the value before (phase 0) or behind an instruction. -/
theorem value_fn (a0 a1 a5 : Value) (old ph pc : Int) (gp g6 g7 i B n c : Nat) (A : Option Addr) (lk : Value) (l : List Int) (x : Int) (w : World)
    (hp : Blk w gp 78 #[.int .i64 pc, lk, .int .i64 (i : Int)]) (h6 : ph = 0 → Blk w g6 47 #[.slice A n c]) (h7 : ph = 1 → Blk w g7 47 #[.slice A n c])
    (hs : Is w B A n c .i32 l) (hi : i < l.length) (hx : l[i] = x) (hph : ph = 0 ∨ ph = 1) :
    Calls Try.prog 38 #[a0, a1, .int .i32 old, .pointer (some ⟨gp, 0, none⟩), .int .i32 ph, a5, .pointer (some ⟨g6, 0, none⟩), .pointer (some ⟨g7, 0, none⟩)] w (QuietPost w (.int .i32 x)) := by
  have hn := hs.len
  have hcap := hs.cap
  have hbig := hs.big
  unfold maxLen at hbig
  obtain ⟨g, o, rfl, hg, hc⟩ := hs.cells (by omega)
  have hcx := hc i hi
  rw [hx] at hcx
  have hpi : w.cell? ⟨gp, 2, none⟩ = some (.int .i64 (i : Int)) := hp.cell 2
  have hin : (i : Int) < (n : Int) := by omega
  have hi0 : (0 : Int) ≤ (i : Int) := by omega
  have HN := Lib.hid hn
  clear hn hc hx hs hp
  rcases hph with rfl | rfl
  · have k6 : w.cell? ⟨g6, 0, none⟩ = some (.slice (some ⟨g, o, none⟩) n c) := (h6 rfl).cell 0
    clear h6 h7
    go_enter Try.func38, Try.ntmps38
    go_wp2_with fail
    go_quiet (fail)
    go_wp2_with fail
    go_ret
    exact ⟨_, rfl, rfl⟩
  · have k7 : w.cell? ⟨g7, 0, none⟩ = some (.slice (some ⟨g, o, none⟩) n c) := (h7 rfl).cell 0
    clear h6 h7
    go_enter Try.func38, Try.ntmps38
    go_wp2_with fail
    go_quiet (fail)
    go_wp2_with fail
    go_ret
    exact ⟨_, rfl, rfl⟩

set_option maxRecDepth 100000 in
theorem func_any (gf : Nat) (s p : Value) (q : Option Addr) (w : World) (hf : Blk w gf 83 #[s, p, .pointer q]) :
    Calls Try.prog 43 #[.pointer (some ⟨gf, 0, none⟩)] w fun en w' => en = .returned (.pointer q) ∧ w = w' := by
  have h2 : w.cell? ⟨gf, 2, none⟩ = some (.pointer q) := hf.cell 2
  clear hf
  go_enter Try.func43, Try.ntmps43
  go_wp2_with fail
  go_ret
  exact ⟨rfl, rfl⟩
end Go.Proofs.Ytfbnnbbjfjhkjaa
