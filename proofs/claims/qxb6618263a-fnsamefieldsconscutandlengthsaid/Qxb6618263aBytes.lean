/-
  Seat b6618263a: the contracts of the two size guards, zzBytes_.. (12: three lists; 5: two lists): they read, answer some Bool, and 'true' only where each list has at most 2^20 elements.
-/
import Derived.Test.Qxb6618263aParts
namespace Go.Proofs.Qxb6618263a
open Go.RowKit

/-- The call answers some Bool, 'true' only where p holds; the world is as it was. -/
def AnsIf (p : Prop) (w : World) (e : Ending) (w' : World) : Prop := w = w' ∧ ∃ c : Bool, e = .returned (.bool c) ∧ (c = true → p)
theorem answers (b : Bool) {p : Prop} {w : World} (h : b = true → p) {e : Ending} (he : e = .returned (.bool b)) : AnsIf p w e w := ⟨rfl, b, he, h⟩

set_option maxHeartbeats 1000000 in
theorem bytes12 (ao bo co : Option Addr) (n m l cn cm cl : Nat) (xs ys zs : List ByteArray) (i : Int) (s : ByteArray) (w : World) (hX : At w ao n xs) (hY : At w bo m ys) (hZ : At w co l zs) (hn : n ≤ maxLen) (hm : m ≤ maxLen) (hl : l ≤ maxLen) :
    Calls Try.prog 12 #[.slice ao n cn, .slice bo m cm, .slice co l cl, .int .i64 i, .string s] w (AnsIf (n ≤ 1048576 ∧ m ≤ 1048576 ∧ l ≤ 1048576) w) := by
  unfold maxLen at hn hm hl
  go_enter Try.func12, Try.ntmps12
  go_wp2
  · go_ret
    exact answers false (by simp) rfl
  go_loop [11, 12] (fun z i => ∃ (k : Nat) (y : Int), k ≤ n ∧ 0 ≤ y ∧ y ≤ 1048576 ∧ i = .int .i64 k ∧ z = .int .i64 y) (fun _ i => n - (intOf i).toNat)
  case atStart => exact ⟨0, _, Nat.zero_le _, by omega, by omega, rfl, rfl⟩
  case round =>
    obtain ⟨k, y, hk, hy0, hy1, rfl, rfl⟩ := hrel
    by_cases hlt : k < n
    · obtain ⟨b, off, rfl, hb, hc⟩ := hX.get k hlt
      obtain ⟨t, ht⟩ : ∃ t, t = List.getD xs k ByteArray.empty := ⟨_, rfl⟩
      rw [← ht] at hc
      clear ht
      go_wp2
      · go_ret
        exact answers false (by simp) rfl
      · go_ret
        exact answers false (by simp) rfl
      · go_round
        case rel => exact ⟨k + 1, _, by omega, by omega, by omega, by go_num, rfl⟩
        case measure => simp [intOf]; omega
    · have hge : n ≤ k := by omega
      clear hlt
      go_wp2
      · go_ret
        exact answers false (by simp) rfl
      · go_ret
        exact answers false (by simp) rfl
      go_loop [11, 13] (fun z i => ∃ (k : Nat) (y : Int), k ≤ m ∧ 0 ≤ y ∧ y ≤ 1048576 ∧ i = .int .i64 k ∧ z = .int .i64 y) (fun _ i => m - (intOf i).toNat)
      case atStart => exact ⟨0, _, Nat.zero_le _, by omega, by omega, rfl, rfl⟩
      case round =>
        obtain ⟨k, y, hk, hy0, hy1, rfl, rfl⟩ := hrel
        by_cases hlt : k < m
        · obtain ⟨b, off, rfl, hb, hc⟩ := hY.get k hlt
          obtain ⟨t, ht⟩ : ∃ t, t = List.getD ys k ByteArray.empty := ⟨_, rfl⟩
          rw [← ht] at hc
          clear ht
          go_wp2
          · go_ret
            exact answers false (by simp) rfl
          · go_ret
            exact answers false (by simp) rfl
          · go_round
            case rel => exact ⟨k + 1, _, by omega, by omega, by omega, by go_num, rfl⟩
            case measure => simp [intOf]; omega
        · have hge : m ≤ k := by omega
          clear hlt
          go_wp2
          · go_ret
            exact answers false (by simp) rfl
          · go_ret
            exact answers false (by simp) rfl
          go_loop [11, 14] (fun z i => ∃ (k : Nat) (y : Int), k ≤ l ∧ 0 ≤ y ∧ y ≤ 1048576 ∧ i = .int .i64 k ∧ z = .int .i64 y) (fun _ i => l - (intOf i).toNat)
          case atStart => exact ⟨0, _, Nat.zero_le _, by omega, by omega, rfl, rfl⟩
          case round =>
            obtain ⟨k, y, hk, hy0, hy1, rfl, rfl⟩ := hrel
            by_cases hlt : k < l
            · obtain ⟨b, off, rfl, hb, hc⟩ := hZ.get k hlt
              obtain ⟨t, ht⟩ : ∃ t, t = List.getD zs k ByteArray.empty := ⟨_, rfl⟩
              rw [← ht] at hc
              clear ht
              go_wp2
              · go_ret
                exact answers false (by simp) rfl
              · go_ret
                exact answers false (by simp) rfl
              · go_round
                case rel => exact ⟨k + 1, _, by omega, by omega, by omega, by go_num, rfl⟩
                case measure => simp [intOf]; omega
            · have hge : l ≤ k := by omega
              clear hlt
              go_wp2
              · go_ret
                exact answers false (by simp) rfl
              · go_ret
                exact answers false (by simp) rfl
              · go_ret
                exact answers true (fun _ => by omega) rfl

set_option maxHeartbeats 1000000 in
theorem bytes5 (ao bo : Option Addr) (n m cn cm : Nat) (xs ys : List ByteArray) (s t : ByteArray) (i : Int) (w : World) (hX : At w ao n xs) (hY : At w bo m ys) (hn : n ≤ maxLen) (hm : m ≤ maxLen) :
    Calls Try.prog 5 #[.slice ao n cn, .slice bo m cm, .string s, .string t, .int .i64 i] w (AnsIf (n ≤ 1048576 ∧ m ≤ 1048576) w) := by
  unfold maxLen at hn hm
  go_enter Try.func5, Try.ntmps5
  go_wp2
  · go_ret
    exact answers false (by simp) rfl
  go_loop [11, 12] (fun z i => ∃ (k : Nat) (y : Int), k ≤ n ∧ 0 ≤ y ∧ y ≤ 1048576 ∧ i = .int .i64 k ∧ z = .int .i64 y) (fun _ i => n - (intOf i).toNat)
  case atStart => exact ⟨0, _, Nat.zero_le _, by omega, by omega, rfl, rfl⟩
  case round =>
    obtain ⟨k, y, hk, hy0, hy1, rfl, rfl⟩ := hrel
    by_cases hlt : k < n
    · obtain ⟨b, off, rfl, hb, hc⟩ := hX.get k hlt
      obtain ⟨t, ht⟩ : ∃ t, t = List.getD xs k ByteArray.empty := ⟨_, rfl⟩
      rw [← ht] at hc
      clear ht
      go_wp2
      · go_ret
        exact answers false (by simp) rfl
      · go_ret
        exact answers false (by simp) rfl
      · go_round
        case rel => exact ⟨k + 1, _, by omega, by omega, by omega, by go_num, rfl⟩
        case measure => simp [intOf]; omega
    · have hge : n ≤ k := by omega
      clear hlt
      go_wp2
      · go_ret
        exact answers false (by simp) rfl
      · go_ret
        exact answers false (by simp) rfl
      go_loop [11, 13] (fun z i => ∃ (k : Nat) (y : Int), k ≤ m ∧ 0 ≤ y ∧ y ≤ 1048576 ∧ i = .int .i64 k ∧ z = .int .i64 y) (fun _ i => m - (intOf i).toNat)
      case atStart => exact ⟨0, _, Nat.zero_le _, by omega, by omega, rfl, rfl⟩
      case round =>
        obtain ⟨k, y, hk, hy0, hy1, rfl, rfl⟩ := hrel
        by_cases hlt : k < m
        · obtain ⟨b, off, rfl, hb, hc⟩ := hY.get k hlt
          obtain ⟨t, ht⟩ : ∃ t, t = List.getD ys k ByteArray.empty := ⟨_, rfl⟩
          rw [← ht] at hc
          clear ht
          go_wp2
          · go_ret
            exact answers false (by simp) rfl
          · go_ret
            exact answers false (by simp) rfl
          · go_round
            case rel => exact ⟨k + 1, _, by omega, by omega, by omega, by go_num, rfl⟩
            case measure => simp [intOf]; omega
        · have hge : m ≤ k := by omega
          clear hlt
          go_wp2
          · go_ret
            exact answers false (by simp) rfl
          · go_ret
            exact answers false (by simp) rfl
          · go_ret
            exact answers false (by simp) rfl
          · go_ret
            exact answers false (by simp) rfl
          · go_ret
            exact answers true (fun _ => by omega) rfl

end Go.Proofs.Qxb6618263a
