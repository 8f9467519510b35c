/-
  Seat b6618263a: plain lemmas for the law on cons, cut and length; the reading of a list that is cut.
-/
import Derived.Test.Qxb6618263aInv
namespace Go.Proofs.Qxb6618263a
open Go.RowKit

theorem eqB_refl (xs : List ByteArray) : eqB xs xs = true := by unfold eqB; simp

theorem bytes_eq {s t : ByteArray} (h : s.toList = t.toList) : s = t := by
  rw [ByteArray.toList_eq, ByteArray.toList_eq] at h
  cases s; cases t
  simpa using h

theorem eqB_cons (x y : ByteArray) (xs ys : List ByteArray) : eqB (x :: xs) (y :: ys) = ((x.toList == y.toList) && eqB xs ys) := by
  unfold eqB
  by_cases h : x = y
  · subst h
    simp
  · have h1 : (x.toList == y.toList) = false := by
      rw [beq_eq_false_iff_ne]
      exact fun e => h (bytes_eq e)
    simp [h, h1]

/-- Two lists are one exactly where their heads and their tails, cut at k, are. -/
theorem eqB_cut (xs ys : List ByteArray) (k : Nat) : eqB xs ys = (eqB (xs.take k) (ys.take k) && eqB (xs.drop k) (ys.drop k)) := by
  unfold eqB
  by_cases h : xs = ys
  · subst h
    simp
  · rw [decide_eq_false h]
    by_cases h1 : xs.take k = ys.take k
    · have h2 : ¬ xs.drop k = ys.drop k := fun h2 => h (by rw [← List.take_append_drop k xs, ← List.take_append_drop k ys, h1, h2])
      simp [h2]
    · simp [h1]

theorem At.takeN {w : World} {ao : Option Addr} {n k : Nat} {xs : List ByteArray} (h : At w ao n xs) (hk : k ≤ n) : At w ao k (xs.take k) := by
  have hl := h.1
  refine ⟨by simp; omega, fun h0 => ?_⟩
  obtain ⟨b, off, e, hb, hc⟩ := h.2 (by omega)
  refine ⟨b, off, e, hb, fun i hi => ?_⟩
  rw [hc i (by omega)]
  have h1 : i < xs.length := by omega
  simp [List.getD_eq_getElem?_getD, hi, h1]

theorem At.dropN {w : World} {ao : Option Addr} {n k : Nat} {xs : List ByteArray} (h : At w ao n xs) (hk : k ≤ n) : At w (ao.map (·.add k)) (n - k) (xs.drop k) := by
  have hl := h.1
  refine ⟨by simp; omega, fun h0 => ?_⟩
  obtain ⟨b, off, rfl, hb, hc⟩ := h.2 (by omega)
  refine ⟨b, off + k, ?_, hb, fun i hi => ?_⟩
  · show some ((⟨b, off, none⟩ : Addr).add k) = _
    rw [show (⟨b, off, none⟩ : Addr).add k = ⟨b, off + k, none⟩ from by unfold Addr.add; split <;> simp_all]
  · have := hc (k + i) (by omega)
    rw [← Nat.add_assoc] at this
    rw [this]
    have h1 : k + i < xs.length := by omega
    simp [List.getD_eq_getElem?_getD, h1]

theorem At.cutN {w : World} {ao : Option Addr} {n k c : Nat} {xs : List ByteArray} (h : At w ao n xs) (hk : k ≤ n) (hc : n ≤ c) : At w (if c = k then ao else Option.map (fun x => x.add k) ao) (n - k) (xs.drop k) := by
  by_cases e : c = k
  · have hl := h.1
    exact ⟨by simp; omega, fun h0 => by omega⟩
  · rw [if_neg e]
    exact h.dropN hk

end Go.Proofs.Qxb6618263a
