/-
  Seat b6618263a: the contracts of sameFields (14) and ZZsameFields (8): the answer is whether the two lists of strings are one.
-/
import Derived.Test.Qxb6618263aParts
import Derived.Deep.QuietTactic
import Derived.BigQuiet
namespace Go.Proofs.Qxb6618263a
open Go.RowKit

/-- Two lists of strings are one list, as a Bool. -/
def eqB (xs ys : List ByteArray) : Bool := decide (xs = ys)

theorem eqB_len {xs ys : List ByteArray} (h : xs.length ≠ ys.length) : eqB xs ys = false := by
  unfold eqB
  exact decide_eq_false (fun e => h (by rw [e]))

theorem eqB_miss {xs ys : List ByteArray} {k : Nat} (h : ¬ xs.getD k ByteArray.empty = ys.getD k ByteArray.empty) : eqB xs ys = false := by
  unfold eqB
  exact decide_eq_false (fun e => h (by rw [e]))

theorem str_eq {s t : ByteArray} (h : (!s.toList == t.toList) = false) : s = t := by
  have h2 : s.toList = t.toList := by simpa using h
  rw [ByteArray.toList_eq, ByteArray.toList_eq] at h2
  cases s; cases t
  simpa using h2

theorem str_ne {s t : ByteArray} (h : (!s.toList == t.toList) = true) : ¬ s = t := by
  intro e
  subst e
  simp at h

theorem eqB_hit {xs ys : List ByteArray} (hl : xs.length = ys.length) (h : ∀ j, j < xs.length → xs.getD j ByteArray.empty = ys.getD j ByteArray.empty) : eqB xs ys = true := by
  unfold eqB
  refine decide_eq_true (List.ext_getElem hl fun i h1 h2 => ?_)
  have := h i h1
  simpa [List.getD_eq_getElem?_getD, h1, h2] using this

set_option maxHeartbeats 400000 in
theorem sameF (ao bo : Option Addr) (n m cn cm : Nat) (xs ys : List ByteArray) (w : World) (hX : At w ao n xs) (hY : At w bo m ys) (hn : n ≤ 2000000) (hm : m ≤ 2000000) :
    Calls Try.prog 14 #[.slice ao n cn, .slice bo m cm] w fun e w' => e = .returned (.bool (eqB xs ys)) ∧ ∃ q, w' = w.drewN q := by
  by_cases hnm : n = m
  · subst hnm
    have HL : Hid (xs.length = ys.length) := by show _ = _; rw [hX.1, hY.1]
    have HX : Hid (xs.length = n) := hX.1
    go_enter Try.func14, Try.ntmps14
    go_wp2
    go_loopw [5, 13] (fun _ i wr => ∃ (k q : Nat), k ≤ n ∧ i = .int .i64 k ∧ wr = w.drewN q ∧ Hid (∀ j, j < k → xs.getD j ByteArray.empty = ys.getD j ByteArray.empty)) (fun _ i _ => n - (intOf i).toNat)
    case atStart => exact ⟨0, 0, Nat.zero_le _, rfl, rfl, fun j hj => by omega⟩
    case round =>
      obtain ⟨k, q, hk, rfl, rfl, HJ⟩ := hrel
      by_cases hlt : k < n
      · obtain ⟨b, off, rfl, hb, hc⟩ := hX.get k hlt
        obtain ⟨b', off', rfl, hb', hc'⟩ := hY.get k hlt
        obtain ⟨s, hs⟩ : ∃ s, s = xs.getD k ByteArray.empty := ⟨_, rfl⟩
        obtain ⟨t, ht⟩ : ∃ t, t = ys.getD k ByteArray.empty := ⟨_, rfl⟩
        rw [← hs] at hc
        rw [← ht] at hc'
        have HS : Hid (s = xs.getD k ByteArray.empty) := hs
        have HT : Hid (t = ys.getD k ByteArray.empty) := ht
        clear hs ht
        go_wp2
        go_quiet (fail)
        go_wp2
        · go_ret
          exact ⟨by rw [eqB_miss (k := k) (by rw [← HS.out, ← HT.out]; exact str_ne (by assumption))]; rfl, q + nq, by simp⟩
        · have hst : s = t := str_eq (by assumption)
          have HE : Hid (s = t) := hst
          clear hst
          go_roundw
          case rel => exact ⟨k + 1, q + nq, by omega, by go_num, rfl, fun j hj => by
            by_cases hjk : j < k
            · exact HJ.out j hjk
            · obtain rfl : j = k := by omega
              rw [← HS.out, ← HT.out, HE.out]⟩
          case measure => simp [intOf]; omega
      · go_wp2
        go_ret
        exact ⟨by rw [eqB_hit HL.out (fun j hj => HJ.out j (by rw [HX.out] at hj; omega))]; rfl, q, rfl⟩
  · have hne : ((n : Int) == (m : Int)) = false := by simp; omega
    go_enter Try.func14, Try.ntmps14
    go_wp2
    go_ret
    exact ⟨by rw [eqB_len (by rw [hX.1, hY.1]; exact hnm)]; rfl, 0, rfl⟩

theorem same (ao bo : Option Addr) (n m cn cm : Nat) (xs ys : List ByteArray) (w : World) (hX : At w ao n xs) (hY : At w bo m ys) (hn : n ≤ 2000000) (hm : m ≤ 2000000) :
    Calls Try.prog 8 #[.slice ao n cn, .slice bo m cm] w fun e w' => e = .returned (.bool (eqB xs ys)) ∧ ∃ q, w' = w.drewN q := by
  go_enter Try.func8, Try.ntmps8
  go_wp2_with (go_at_call 14; refine (sameF ao bo n m cn cm xs ys _ hX hY hn hm).mono ?_; rintro e w' ⟨rfl, q, rfl⟩)
  go_ret
  exact ⟨rfl, q, rfl⟩

end Go.Proofs.Qxb6618263a
