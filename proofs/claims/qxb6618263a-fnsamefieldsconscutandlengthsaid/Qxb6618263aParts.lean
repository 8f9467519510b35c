/-
  Seat b6618263a: what the walks share: a slice of strings as it reads in a world; plain lemmas. No Go function is walked here.
-/
import Derived.Test.Qxb6618263aRows
import Derived.WalkKit
import Derived.Deep.LoopGhost
namespace Go.Proofs.Qxb6618263a
open Go.RowKit

/-- The slice value with address 'ao' and length 'n' reads as the strings 'ss' in the world 'w'. -/
def At (w : World) (ao : Option Addr) (n : Nat) (ss : List ByteArray) : Prop :=
  ss.length = n ∧ (0 < n → ∃ b off, ao = some ⟨b, off, none⟩ ∧ b < w.heap.size ∧ ∀ i, i < n → w.cell? ⟨b, off + i, none⟩ = some (.string (ss.getD i ByteArray.empty)))

theorem At.get {w : World} {ao : Option Addr} {n : Nat} {ss : List ByteArray} (h : At w ao n ss) (k : Nat) (hk : k < n) :
    ∃ b off, ao = some ⟨b, off, none⟩ ∧ b < w.heap.size ∧ w.cell? ⟨b, off + k, none⟩ = some (.string (ss.getD k ByteArray.empty)) := by
  obtain ⟨b, off, e, hb, hc⟩ := h.2 (by omega)
  exact ⟨b, off, e, hb, hc k hk⟩

theorem At.below {w w' : World} {ao : Option Addr} {n : Nat} {ss : List ByteArray} {B : Nat} (h : At w ao n ss) (hB : w.heap.size ≤ B) (hb : Below B w w') : At w' ao n ss := by
  refine ⟨h.1, fun hn => ?_⟩
  obtain ⟨b, off, e, hlt, hc⟩ := h.2 hn
  exact ⟨b, off, e, Nat.lt_of_lt_of_le hlt hb.size, fun i hi => (hb.cell (p := ⟨b, off + i, none⟩) (by simpa using Nat.lt_of_lt_of_le hlt hB)).trans (hc i hi)⟩

end Go.Proofs.Qxb6618263a
