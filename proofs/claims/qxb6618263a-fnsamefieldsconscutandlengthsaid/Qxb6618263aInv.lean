/-
  Seat b6618263a: what the two laws' walks share: the lists that are at hand, carried from world to world; the copy of a list by make and copy; the contracts in the form in which the laws use them.
-/
import Derived.Test.Qxb6618263aReads
import Derived.Test.Qxb6618263aSame
import Derived.Test.Qxb6618263aBytes
import Derived.Test.Qxb6618263aEdit
import Derived.WalkSmall
import Derived.Laws.CopyOwn
namespace Go.Proofs.Qxb6618263a
open Go.RowKit

/-- Below the heap's size at the call's start nothing has turned from w to w1; each list of 'ls' reads in w1. -/
def Inv (w w1 : World) (ls : List (Option Addr × Nat × List ByteArray)) : Prop := Below w.heap.size w w1 ∧ ∀ x ∈ ls, At w1 x.1 x.2.1 x.2.2

theorem Inv.thenTo {w w1 w2 : World} {ls : List (Option Addr × Nat × List ByteArray)} (h : Inv w w1 ls) (hb : Below w1.heap.size w1 w2) : Inv w w2 ls :=
  ⟨h.1.trans (hb.mono h.1.size), fun x hx => (h.2 x hx).below (Nat.le_refl _) hb⟩

theorem Inv.plus {w w1 : World} {ls : List (Option Addr × Nat × List ByteArray)} (h : Inv w w1 ls) {ao : Option Addr} {n : Nat} {xs : List ByteArray} (ha : At w1 ao n xs) : Inv w w1 ((ao, n, xs) :: ls) :=
  ⟨h.1, fun x hx => by
    rcases List.mem_cons.1 hx with rfl | hx
    · exact ha
    · exact h.2 x hx⟩

theorem Inv.fewer {w w1 : World} {ls ms : List (Option Addr × Nat × List ByteArray)} (h : Inv w w1 ls) (hs : ∀ x ∈ ms, x ∈ ls) : Inv w w1 ms := ⟨h.1, fun x hx => h.2 x (hs x hx)⟩

theorem Inv.listAt {w w1 : World} {ls : List (Option Addr × Nat × List ByteArray)} (h : Inv w w1 ls) {ao : Option Addr} {n : Nat} {xs : List ByteArray} (hm : (ao, n, xs) ∈ ls) : At w1 ao n xs := h.2 _ hm

/-- The law's end. -/
def Done (w : World) (e : Ending) (w' : World) : Prop := e = .returned (.bool true) ∧ Below w.heap.size w w'
theorem Done.mk {w w' : World} {e : Ending} (he : e = .returned (.bool true)) (hb : Below w.heap.size w w') : Done w e w' := ⟨he, hb⟩

/-- What a call of ZZsameFields leaves. -/
def Says (p : Bool) (w : World) (e : Ending) (w' : World) : Prop := e = .returned (.bool p) ∧ Below w.heap.size w w'

theorem says (ao bo : Option Addr) (n m cn cm : Nat) (xs ys : List ByteArray) (p : Bool) (w : World) (hX : At w ao n xs) (hY : At w bo m ys) (hn : n ≤ 2000000) (hm : m ≤ 2000000) (hp : eqB xs ys = p) :
    Calls Try.prog 8 #[.slice ao n cn, .slice bo m cm] w (Says p w) := by
  refine (same ao bo n m cn cm xs ys w hX hY hn hm).mono ?_
  rintro e w' ⟨rfl, q, rfl⟩
  exact ⟨by rw [hp], below_drewN (Below.refl _ _) q⟩

/-- A row of n cells, out of what 'make' leaves. -/
theorem owns_cells {w : World} {base g n cap : Nat} {xs : List Value} (h : w.ownsRow base 9 1 (.slice (some ⟨g, 0, none⟩) n cap) n xs) : ∃ cur : List Value, w.heap[g]? = some (.cells cur.toArray 9 (0, 0)) ∧ n ≤ cur.length := by
  rcases h.2 with ⟨h0, _⟩ | ⟨g', c, cur, hv, hb, hg, hle, hm, hs, _⟩
  · simp at h0
  · obtain ⟨rfl, rfl⟩ : g = g' ∧ cap = c := by simpa using hv
    exact ⟨cur.toList, by simpa using hg, by simpa [hs] using hle⟩

/-- A row whose first cells are the strings of xs reads as xs. -/
theorem At.row {w : World} {g : Nat} {cur : List Value} {xs : List ByteArray} {n : Nat} (hg : w.heap[g]? = some (.cells (splice cur 0 (xs.map Value.string)).toArray 9 (0, 0))) (hl : xs.length = n) : At w (some ⟨g, 0, none⟩) n xs := by
  refine ⟨hl, fun hn => ⟨g, 0, rfl, (Array.getElem?_eq_some_iff.1 hg).1, fun i hi => ?_⟩⟩
  have h2 : i < xs.length := by omega
  rw [Nat.zero_add, cell_of_row w g i _ 9 (0, 0) hg]
  simp [splice, List.getElem?_append, h2, List.getD_eq_getElem?_getD]

/-- The cells that a copy reads. -/
theorem At.cells {w w1 : World} {ao : Option Addr} {n : Nat} {xs : List ByteArray} (h : At w ao n xs) (hb : Below w.heap.size w w1) (h0 : 0 < (xs.map Value.string).length) :
    ∃ ad, ao = some ad ∧ ∀ j v, (xs.map Value.string)[j]? = some v → w1.cell? (ad.add j) = some v := by
  have hl := h.1
  obtain ⟨b, off, e, hlt, hc⟩ := h.2 (by simp at h0; omega)
  refine ⟨_, e, fun j v hv => ?_⟩
  rw [List.getElem?_map] at hv
  obtain ⟨s, hs, rfl⟩ := Option.map_eq_some_iff.1 hv
  have hj : j < xs.length := (List.getElem?_eq_some_iff.1 hs).1
  have := (hb.cell (p := ⟨b, off + j, none⟩) hlt).trans (hc j (by omega))
  rw [show (⟨b, off, none⟩ : Addr).add j = ⟨b, off + j, none⟩ from by unfold Addr.add; split <;> simp_all]
  simpa [List.getD_eq_getElem?_getD, hs] using this

theorem one_cells (xs : List ByteArray) : ∀ v ∈ xs.map Value.string, v.oneCell' = true := by
  intro v hv
  obtain ⟨s, _, rfl⟩ := List.mem_map.1 hv
  rfl

end Go.Proofs.Qxb6618263a
