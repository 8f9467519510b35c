/-
  Seat b6618263a: the contract of zzEditFresh (13).
-/
import Derived.Test.Qxb6618263aFresh
namespace Go.Proofs.Qxb6618263a
open Go.RowKit

theorem owns_some {w : World} {base n cap : Nat} {ao : Option Addr} {xs : List Value} (h : w.ownsRow base 9 1 (.slice ao n cap) n xs) (hn : 0 < n) : ∃ g, ao = some ⟨g, 0, none⟩ ∧ base ≤ g := by
  rcases h.2 with ⟨_, h0⟩ | ⟨g, c, cur, hv, hb, _⟩
  · omega
  · obtain ⟨rfl, _⟩ : ao = some ⟨g, 0, none⟩ ∧ cap = c := by simpa using hv
    exact ⟨g, rfl, hb⟩

set_option maxHeartbeats 400000 in
theorem edit (ao : Option Addr) (n cap i : Nat) (t : ByteArray) (xs : List ByteArray) (w : World) (hA : At w ao n xs) (hn : n ≤ 1048576) (hin : i < n) :
    Calls Try.prog 13 #[.slice ao n cap, .int .i64 i, .string t] w (Fresh n (xs.set i t) w) := by
  go_enter Try.func13, Try.ntmps13
  go_wp2_with fail
  refine (clone ao n cap xs _ hA hn).mono ?_
  rintro e w1 ⟨bo, c1, rfl, hrow, hbel⟩
  obtain ⟨g, rfl, hg⟩ := owns_some hrow (by omega)
  have hfr := hrow.frozenAt i
  obtain ⟨v, hv⟩ : ∃ v, w1.cell? ⟨g, i, none⟩ = some v := ⟨_, (hrow.cellAt i (by omega)).trans (List.getElem?_eq_getElem (by have := hA.1; simp; omega))⟩
  obtain ⟨hst, hgr⟩ := hrow.stored i (.string t)
  rw [← List.map_set] at hst
  have R : Hid ((w1.setCell ⟨g, i, none⟩ (.string t)).ownsRow w.heap.size 9 1 (.slice (some ⟨g, 0, none⟩) n c1) n ((xs.set i t).map Value.string) ∧ Below w.heap.size w (w1.setCell ⟨g, i, none⟩ (.string t))) :=
    ⟨hst, hbel.setCell hg _⟩
  clear hst hgr hrow
  go_wp2
  go_ret
  exact Fresh.mk rfl R.out.1 R.out.2

end Go.Proofs.Qxb6618263a
