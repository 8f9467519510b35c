/-
  Seat b6618388a: the contracts of newChecker (5) and ZZNewChecker (4).
-/
import Derived.Test.Qxb6618388aRows
import Derived.WalkKit
import Derived.WalkSpells
namespace Go.Proofs.Qxb6618388a
open Go.RowKit

/-- Each block of bs is an empty map, numbered from lo on. -/
def Maps (w : World) (lo : Nat) (bs : List Nat) : Prop := ∀ b ∈ bs, lo ≤ b ∧ w.heap[b]? = some (.map #[] 0)

theorem Maps.alloc {w : World} {lo : Nat} {bs : List Nat} (h : Maps w lo bs) (o : Obj) : Maps (w.alloc o) lo bs := fun b hb => by
  obtain ⟨h1, h2⟩ := h b hb
  exact ⟨h1, by rw [Below.heap_alloc _ _ _ (Array.getElem?_eq_some_iff.1 h2).1]; exact h2⟩

theorem Maps.setCell {w : World} {lo : Nat} {bs : List Nat} (h : Maps w lo bs) {a : Addr} (ha : a.block < lo) (u : Value) : Maps (w.setCell a u) lo bs := fun b hb => by
  obtain ⟨h1, h2⟩ := h b hb
  exact ⟨h1, by rw [Below.heap_setCell _ _ _ _ (by omega)]; exact h2⟩

theorem Maps.lower {w : World} {lo lo' : Nat} {bs : List Nat} (h : Maps w lo bs) (hl : lo' ≤ lo) : Maps w lo' bs := fun b hb => ⟨Nat.le_trans hl (h b hb).1, (h b hb).2⟩

theorem Maps.here {w : World} {lo : Nat} {bs : List Nat} (h : Maps w lo bs) (b : Nat) (hb : b ∈ bs) (o : Obj) : (w.alloc o).heap[b]? = some (.map #[] 0) := ((h.alloc o) b hb).2

theorem Maps.nil (w : World) (lo : Nat) : Maps w lo [] := fun b hb => by simp at hb

/-- One more empty map is made. -/
theorem Maps.more {w : World} {lo : Nat} {bs : List Nat} (h : Maps w lo bs) (hl : lo ≤ w.heap.size) : Maps (w.alloc (.map #[] 0)) lo (bs ++ [w.heap.size]) := fun b hb => by
  rcases List.mem_append.1 hb with hb | hb
  · exact (h.alloc _) b hb
  · obtain rfl : b = w.heap.size := by simpa using hb
    exact ⟨hl, heap_alloc_new w _⟩

/-- A checker as it is handed back: the majority m, eight empty maps of its own, no violation. -/
def Made (m : Int) (w : World) (e : Ending) (w' : World) : Prop :=
  ∃ b1 b2 b3 b4 b5 b6 b7 b8, e = .returned (.agg #[.int .i64 m, .map (some b1), .map (some b2), .map (some b3), .map (some b4), .map (some b5), .map (some b6), .map (some b7), .map (some b8), .slice none 0 0]) ∧
    Maps w' w.heap.size [b1, b2, b3, b4, b5, b6, b7, b8] ∧ Below w.heap.size w w'

theorem maps_eight (w : World) (o : Obj) : Maps ((((((((( w.alloc o).alloc (.map #[] 0)).alloc (.map #[] 0)).alloc (.map #[] 0)).alloc (.map #[] 0)).alloc (.map #[] 0)).alloc (.map #[] 0)).alloc (.map #[] 0)).alloc (.map #[] 0)) w.heap.size
    [w.heap.size + 1, w.heap.size + 1 + 1, w.heap.size + 1 + 1 + 1, w.heap.size + 1 + 1 + 1 + 1, w.heap.size + 1 + 1 + 1 + 1 + 1, w.heap.size + 1 + 1 + 1 + 1 + 1 + 1, w.heap.size + 1 + 1 + 1 + 1 + 1 + 1 + 1, w.heap.size + 1 + 1 + 1 + 1 + 1 + 1 + 1 + 1] := by
  have h := (((((((((Maps.nil (w.alloc o) w.heap.size).more (by simp)).more (by simp; omega)).more (by simp; omega)).more (by simp; omega)).more (by simp; omega)).more (by simp; omega)).more (by simp; omega)).more (by simp; omega))
  simpa using h

set_option maxHeartbeats 1000000 in
theorem new5 (a : Int) (w : World) (h0 : 0 ≤ a) (h1 : a ≤ 9223372036854775807) : Calls Try.prog 5 #[.int .i64 a] w (Made (a / 2 + 1) w) := by
  have hmm := @run_makeMap Try.prog
  go_enter Try.func5, Try.ntmps5
  go_wp2
  refine bodyPost_ret (v := .agg #[.int .i64 (a / 2 + 1), .map (some (w.heap.size + 1)), .map (some (w.heap.size + 1 + 1)), .map (some (w.heap.size + 1 + 1 + 1)), .map (some (w.heap.size + 1 + 1 + 1 + 1)), .map (some (w.heap.size + 1 + 1 + 1 + 1 + 1)), .map (some (w.heap.size + 1 + 1 + 1 + 1 + 1 + 1)), .map (some (w.heap.size + 1 + 1 + 1 + 1 + 1 + 1 + 1)), .map (some (w.heap.size + 1 + 1 + 1 + 1 + 1 + 1 + 1 + 1)), .slice none 0 0]) (by simp [results, Try.results5, go_sem]) rfl ⟨_, _, _, _, _, _, _, _, rfl, maps_eight w _, ?_⟩
  exact ((((((((((Below.refl w.heap.size w).alloc (by simp) _).alloc (by simp) _).alloc (by simp; omega) _).alloc (by simp; omega) _).alloc (by simp; omega) _).alloc (by simp; omega) _).alloc (by simp; omega) _).alloc (by simp; omega) _).alloc (by simp; omega) _)

end Go.Proofs.Qxb6618388a
