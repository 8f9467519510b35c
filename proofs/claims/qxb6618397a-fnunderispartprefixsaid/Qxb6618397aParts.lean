/-
  Seat b6618397a: a slice of strings as it reads in a world; the contract of partsPrefixB1 (7).
-/
import Derived.Test.Qxb6618397aRows
import Derived.Test.Qxb6618397aSplit
import Derived.WalkKit
import Derived.WalkSmall
import Derived.Deep.LoopGhost
import Derived.Deep.QuietTactic
import Derived.BigQuiet
namespace Go.Proofs.Qxb6618397a
open Go.RowKit

/-- The slice value with address 'ao' and length 'n' reads as the strings 'ss' in the world 'w'. -/
def At (w : World) (ao : Option Addr) (n : Nat) (ss : List ByteArray) : Prop :=
  ss.length = n ∧ (0 < n → ∃ b off, ao = some ⟨b, off, none⟩ ∧ b < w.heap.size ∧ ∀ i, i < n → w.cell? ⟨b, off + i, none⟩ = some (.string (ss.getD i ByteArray.empty)))

theorem At.get {w : World} {ao : Option Addr} {n : Nat} {ss : List ByteArray} (h : At w ao n ss) (k : Nat) (hk : k < n) :
    ∃ b off, ao = some ⟨b, off, none⟩ ∧ b < w.heap.size ∧ w.cell? ⟨b, off + k, none⟩ = some (.string (ss.getD k ByteArray.empty)) := by
  obtain ⟨b, off, e, hb, hc⟩ := h.2 (by omega)
  exact ⟨b, off, e, hb, hc k hk⟩

theorem At.below {w w' : World} {ao : Option Addr} {n : Nat} {ss : List ByteArray} {B : Nat} (h : At w ao n ss) (hB : w.heap.size ≤ B) (hb : Below B w w') : At w' ao n ss := by
  refine ⟨h.1, fun hn => ?_⟩
  obtain ⟨b, off, e, hlt, hc⟩ := h.2 hn
  exact ⟨b, off, e, Nat.lt_of_lt_of_le hlt hb.size, fun i hi => (hb.cell (p := ⟨b, off + i, none⟩) (by simpa using Nat.lt_of_lt_of_le hlt hB)).trans (hc i hi)⟩

/-- A row of strings that the call owns reads as those strings. -/
theorem At.owned {w : World} {base n cap : Nat} {ao : Option Addr} {ys : List ByteArray} (h : w.ownsRow base 9 1 (.slice ao n cap) n (ys.map Value.string)) : At w ao n ys := by
  have hl : ys.length = n := by have := h.1; simpa using this
  refine ⟨hl, fun hn => ?_⟩
  rcases h.2 with ⟨_, h0⟩ | ⟨g, c, cur, hv, _, hg, _, _, _, htake⟩
  · omega
  · obtain ⟨rfl, rfl⟩ : ao = some ⟨g, 0, none⟩ ∧ cap = c := by simpa using hv
    refine ⟨g, 0, rfl, (Array.getElem?_eq_some_iff.1 hg).1, fun i hi => ?_⟩
    rw [Nat.zero_add, h.cellAt i (by omega), List.getElem?_map, List.getElem?_eq_getElem (by omega)]
    have h2 : i < ys.length := by omega
    simp [List.getD_eq_getElem?_getD, h2]

/-- The bytes of each. -/
def bytesOf (ss : List ByteArray) : List (List UInt8) := ss.map (·.data.toList)

theorem str_eq {s t : ByteArray} (h : (!s.toList == t.toList) = false) : s = t := by
  have h2 : s.toList = t.toList := by simpa using h
  rw [ByteArray.toList_eq, ByteArray.toList_eq] at h2
  cases s; cases t
  simpa using h2

theorem str_ne {s t : ByteArray} (h : (!s.toList == t.toList) = true) : ¬ s.data.toList = t.data.toList := by
  intro e
  rw [ByteArray.toList_eq, ByteArray.toList_eq, e] at h
  simp at h

theorem pre_long {xs ys : List ByteArray} (h : xs.length < ys.length) : preB (bytesOf xs) (bytesOf ys) = false := by
  unfold preB bytesOf
  refine decide_eq_false fun e => ?_
  have := congrArg List.length e
  simp at this
  omega

theorem pre_miss {xs ys : List ByteArray} {k : Nat} (hk : k < ys.length) (hx : ys.length ≤ xs.length) (h : ¬ (xs.getD k ByteArray.empty).data.toList = (ys.getD k ByteArray.empty).data.toList) : preB (bytesOf xs) (bytesOf ys) = false := by
  unfold preB bytesOf
  refine decide_eq_false fun e => h ?_
  have h1 : k < xs.length := by omega
  have := congrArg (fun l : List (List UInt8) => l[k]?) e
  simpa [List.getElem?_take, hk, h1, List.getD_eq_getElem?_getD] using this

theorem pre_hit {xs ys : List ByteArray} (hx : ys.length ≤ xs.length) (h : ∀ j, j < ys.length → xs.getD j ByteArray.empty = ys.getD j ByteArray.empty) : preB (bytesOf xs) (bytesOf ys) = true := by
  unfold preB bytesOf
  refine decide_eq_true ?_
  rw [List.length_map, ← List.map_take]
  congr 1
  refine List.ext_getElem (by simp; omega) fun i h1 h2 => ?_
  have h3 : i < xs.length := by omega
  have := h i h2
  simpa [List.getD_eq_getElem?_getD, h2, h3] using this

set_option maxHeartbeats 400000 in
theorem pre7 (ao bo : Option Addr) (n m cn cm : Nat) (xs ys : List ByteArray) (w : World) (hX : At w ao n xs) (hY : At w bo m ys) (hn : n ≤ 2000000) :
    Calls Try.prog 7 #[.slice ao n cn, .slice bo m cm] w fun e w' => e = .returned (.bool (preB (bytesOf xs) (bytesOf ys))) ∧ ∃ q, w' = w.drewN q := by
  have HX : Hid (xs.length = n) := hX.1
  have HY : Hid (ys.length = m) := hY.1
  by_cases hnm : m ≤ n
  · go_enter Try.func7, Try.ntmps7
    go_wp2
    go_loopw [5] (fun i wr => ∃ (k q : Nat), k ≤ m ∧ i = .int .i64 k ∧ wr = w.drewN q ∧ Hid (∀ j, j < k → xs.getD j ByteArray.empty = ys.getD j ByteArray.empty)) (fun i _ => m - (intOf i).toNat)
    case atStart => exact ⟨0, 0, Nat.zero_le _, rfl, rfl, fun j hj => by omega⟩
    case round =>
      obtain ⟨k, q, hk, rfl, rfl, HJ⟩ := hrel
      by_cases hlt : k < m
      · have hlt2 : k < n := by omega
        obtain ⟨b, off, rfl, hb, hc⟩ := hX.get k hlt2
        obtain ⟨b', off', rfl, hb', hc'⟩ := hY.get k hlt
        obtain ⟨s, hs⟩ : ∃ s, s = xs.getD k ByteArray.empty := ⟨_, rfl⟩
        obtain ⟨t, ht⟩ : ∃ t, t = ys.getD k ByteArray.empty := ⟨_, rfl⟩
        rw [← hs] at hc
        rw [← ht] at hc'
        have HS : Hid (s = xs.getD k ByteArray.empty) := hs
        have HT : Hid (t = ys.getD k ByteArray.empty) := ht
        clear hs ht
        go_wp2
        go_quiet (fail)
        go_wp2
        · go_ret
          exact ⟨by rw [pre_miss (k := k) (by rw [HY.out]; exact hlt) (by rw [HX.out, HY.out]; exact hnm) (by rw [← HS.out, ← HT.out]; exact str_ne (by assumption))]; rfl, q + nq, by simp⟩
        · have hst : s = t := str_eq (by assumption)
          have HE : Hid (s = t) := hst
          clear hst
          go_roundw
          case rel => exact ⟨k + 1, q + nq, by omega, by go_num, rfl, fun j hj => by
            by_cases hjk : j < k
            · exact HJ.out j hjk
            · obtain rfl : j = k := by omega
              rw [← HS.out, ← HT.out, HE.out]⟩
          case measure => simp [intOf]; omega
      · go_wp2
        go_ret
        exact ⟨by rw [pre_hit (by rw [HX.out, HY.out]; exact hnm) (fun j hj => HJ.out j (by rw [HY.out] at hj; omega))]; rfl, q, rfl⟩
  · go_enter Try.func7, Try.ntmps7
    go_wp2
    go_ret
    exact ⟨by rw [pre_long (by rw [HX.out, HY.out]; omega)]; rfl, 0, rfl⟩

end Go.Proofs.Qxb6618397a
