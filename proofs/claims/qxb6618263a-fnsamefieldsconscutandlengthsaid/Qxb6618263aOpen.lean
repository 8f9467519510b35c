/-
  Seat b6618263a: from the row's reading of the arguments to what the walks ask.
-/
import Derived.Test.Qxb6618263aParts
import Derived.ProofKit
import Derived.OpenShut
import Derived.ShutString
import Derived.ChangeOld
import Derived.SliceStrings
import Derived.Below
namespace Go.Proofs.Qxb6618263a
open Go.ChangeShapes Go.WideShapes Go.ChangeAt Go.RowKit

theorem own : ownKnob Try.prog.godebug = none := by kernel_rfl
theorem laidOut : laidOutB Try.prog = true := by kernel_rfl

/-- A slice of strings that came in reads as some list of strings; its length is within Go's bound. -/
theorem open_at {H : Type} {enc : TypeId × Value → H} {W : World} {a : Option Addr} {n c : Nat} {d : DataW H} {p : List MemPlace}
    (h : DataW.Trod enc Try.prog W 0 (fun _ => true) true 22 (.slice a n c) d p) (hlt : ∀ x ∈ p, x.block < W.heap.size) : (∃ ss, At W a n ss) ∧ n ≤ maxLen := by
  obtain ⟨fuel, hf⟩ := h
  rcases open_strings Try.underlying22 Try.underlying9 (by kernel_rfl) hf with ⟨hcs, _⟩ | ⟨x, l, c', ss, hcs, _, hl, hm, hz, hx, hcell, _⟩
  · simp [Value.cells] at hcs
    obtain ⟨rfl, rfl, rfl⟩ := hcs
    exact ⟨⟨[], rfl, fun h => by omega⟩, Nat.zero_le _⟩
  · simp [Value.cells] at hcs
    obtain ⟨rfl, rfl, rfl⟩ := hcs
    simp only [Prod.mk.injEq] at hx
    obtain ⟨_, rfl⟩ := hx
    simp only [if_true] at hz
    refine ⟨⟨ss.take n, by simp; omega, fun h0 => ?_⟩, by omega⟩
    obtain ⟨b, off, spot⟩ := x
    have hspot : spot = none := by simpa [Addr.add] using World.cell?_spot (hcell 0 (by omega))
    subst hspot
    refine ⟨b, off, rfl, ?_, fun i hi => ?_⟩
    · exact hlt (.cell b off) (MemPlace.mem_row.2 ⟨0, by omega, by simp⟩)
    · have := hcell i (by omega)
      rw [add_plain] at this
      rw [this]
      have h2 : i < ss.length := by omega
      simp [List.getD_eq_getElem?_getD, hi, h2]

end Go.Proofs.Qxb6618263a
