/- Bytes stay where they are behind an append onto another row. -/
import Derived.Test.YtfbnnbbjfjhkjaaMem
namespace Go.Proofs.Ytfbnnbbjfjhkjaa
open Go.RowKit
theorem Bs.grown {w w' : World} {B n c : Nat} {A : Option Addr} {l : List UInt8} {row : Option Nat} (h : Bs w B A n c l) (hg : w.grownBy w' row) (hB : B ≤ w.heap.size) (hr : ∀ g, row = some g → B ≤ g) : Bs w' B A n c l :=
  h.keep fun p hp => hg.cell_far p (by omega) (fun e => by have := hr _ e.symm; omega)
end Go.Proofs.Ytfbnnbbjfjhkjaa
