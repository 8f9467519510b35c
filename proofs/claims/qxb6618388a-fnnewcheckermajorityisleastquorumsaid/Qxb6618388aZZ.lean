/-
  Seat b6618388a: the contract of ZZNewChecker (4).
-/
import Derived.Test.Qxb6618388aWalk
import Derived.Laws.CopyOwn
namespace Go.Proofs.Qxb6618388a
open Go.RowKit

theorem Maps.setRow {w : World} {lo : Nat} {bs : List Nat} (h : Maps w lo bs) {g : Nat} (ha : g < lo) (cs : Array Value) : Maps (w.setRow g cs) lo bs := fun b hb => by
  obtain ⟨h1, h2⟩ := h b hb
  exact ⟨h1, by rw [setRow_other _ _ _ _ (by omega)]; exact h2⟩

theorem one_all (m : Int) (b1 b2 b3 b4 b5 b6 b7 b8 : Nat) : (#[.int .i64 m, .map (some b1), .map (some b2), .map (some b3), .map (some b4), .map (some b5), .map (some b6), .map (some b7), .map (some b8), .slice none 0 0] : Array Value).all (·.oneCell') = true := by kernel_rfl

set_option maxHeartbeats 2000000 in
set_option maxRecDepth 100000 in
theorem new4 (a : Int) (w : World) (h0 : 0 ≤ a) (h1 : a ≤ 9223372036854775807) : Calls Try.prog 4 #[.int .i64 a] w (Made (a / 2 + 1) w) := by
  obtain ⟨m, hm⟩ : ∃ m, m = a / 2 + 1 := ⟨_, rfl⟩
  rw [← hm]
  have HM : Hid (m = a / 2 + 1) := hm
  clear hm
  go_enter Try.func4, Try.ntmps4
  go_wp2_with fail
  refine (new5 a _ h0 h1).mono ?_
  rw [← HM.out]
  rintro e w1 ⟨b1, b2, b3, b4, b5, b6, b7, b8, rfl, hmaps, hb⟩
  have hz : w.heap.size < w1.heap.size := by have := hb.size; simp at this; omega
  have HG : Hid (∀ o, (w1.alloc o).heap[w.heap.size]? = some (.cells #[.int .i64 0, .map none, .map none, .map none, .map none, .map none, .map none, .map none, .map none, .slice none 0 0] 31 (0, 0))) := fun o => by
    rw [Below.heap_alloc _ _ _ hz, hb.block _ (by simp)]
    exact heap_alloc_new w _
  have HMaps : Hid (Maps w1 (w.heap.size + 1) [b1, b2, b3, b4, b5, b6, b7, b8]) := by show Maps _ _ _; simpa using hmaps
  have hbel : Below w.heap.size w w1 := ((Below.refl _ _).alloc (Nat.le_refl _) _).trans (hb.mono (by simp))
  clear hmaps hb
  go_wp2_with (refine wpList_store_row rfl 31 (.tmp 2) (.tmp 26) rfl w.heap.size #[.int .i64 m, .map (some b1), .map (some b2), .map (some b3), .map (some b4), .map (some b5), .map (some b6), .map (some b7), .map (some b8), .slice none 0 0] rfl rfl 31 _ (HG.out _) (by kernel_rfl) rfl (one_all m b1 b2 b3 b4 b5 b6 b7 b8) ?_)
  refine bodyPost_ret (v := .agg #[.int .i64 m, .map (some b1), .map (some b2), .map (some b3), .map (some b4), .map (some b5), .map (some b6), .map (some b7), .map (some b8), .slice none 0 0]) (results_cell_row (p := 2) (ty := 31) (by kernel_rfl) _ _ w.heap.size 31 _ (0, 0) _ rfl (setRow_heap _ _ _ _ _ _ (HG.out _)) Try.underlying31 rfl (by kernel_rfl)) rfl ⟨b1, b2, b3, b4, b5, b6, b7, b8, rfl, ?_, ?_⟩
  · exact (((HMaps.out).alloc _).setRow (Nat.lt_succ_self _) _).lower (Nat.le_succ _)
  · exact below_setRow (hbel.alloc (by omega) _) (Nat.le_refl _) _

end Go.Proofs.Qxb6618388a
