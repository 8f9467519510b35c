/-
  Seat b6618263a: the contracts of the functions that only read: zzAddSize (6), zzAddText (7).
-/
import Derived.Test.Qxb6618263aParts
namespace Go.Proofs.Qxb6618263a
open Go.RowKit

set_option maxHeartbeats 400000 in
theorem addSize (n : Int) (h0 : 0 ≤ n) (h1 : n ≤ 1048576) (ao : Option Addr) (m cap : Nat) (ss : List ByteArray) (w : World) (hA : At w ao m ss) (hm : m ≤ 1048576) :
    Calls Try.prog 6 #[.int .i64 n, .slice ao m cap] w fun e w' => w = w' ∧ ∃ r : Int, 0 ≤ r ∧ r ≤ 4000000 ∧ e = .returned (.int .i64 r) := by
  go_enter Try.func6, Try.ntmps6
  go_wp2
  go_loop [0, 5] (fun n i => ∃ (k : Nat) (z : Int), k ≤ m ∧ 0 ≤ z ∧ z ≤ 1048576 ∧ i = .int .i64 k ∧ n = .int .i64 z) (fun _ i => m - (intOf i).toNat)
  case atStart => exact ⟨0, n, Nat.zero_le _, h0, h1, rfl, rfl⟩
  case round =>
    obtain ⟨k, z, hk, hz0, hz1, rfl, rfl⟩ := hrel
    by_cases hlt : k < m
    · obtain ⟨b, off, rfl, hb, hc⟩ := hA.get k hlt
      obtain ⟨s, hs⟩ : ∃ s, s = ss.getD k ByteArray.empty := ⟨_, rfl⟩
      rw [← hs] at hc
      clear hs
      go_wp2
      · go_ret
        exact ⟨rfl, _, by omega, by omega, rfl⟩
      · go_ret
        exact ⟨rfl, _, by omega, by omega, rfl⟩
      · go_round
        case rel => exact ⟨k + 1, _, by omega, by omega, by omega, by go_num, rfl⟩
        case measure => simp [intOf]; omega
    · go_wp2
      go_ret
      exact ⟨rfl, z, hz0, by omega, rfl⟩

theorem addText (n : Int) (h0 : 0 ≤ n) (h1 : n ≤ 1048576) (s : ByteArray) (w : World) :
    Calls Try.prog 7 #[.int .i64 n, .string s] w fun e w' => w = w' ∧ ∃ r : Int, 0 ≤ r ∧ r ≤ 4000000 ∧ e = .returned (.int .i64 r) := by
  go_enter Try.func7, Try.ntmps7
  go_wp2
  · go_ret
    exact ⟨rfl, _, by omega, by omega, rfl⟩
  · go_ret
    exact ⟨rfl, _, by omega, by omega, rfl⟩

end Go.Proofs.Qxb6618263a
