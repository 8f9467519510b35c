/-
  Seat b6618263a: the contracts of zzSnocFresh (10) and zzConsFresh (11).
-/
import Derived.Test.Qxb6618263aFresh
namespace Go.Proofs.Qxb6618263a
open Go.RowKit

theorem snoc_lo (xs : List ByteArray) (x : ByteArray) (k : Nat) (h : k < xs.length) : (xs ++ [x]).getD k ByteArray.empty = xs.getD k ByteArray.empty := by
  simp [List.getD_eq_getElem?_getD, List.getElem?_append, h]

theorem snoc_hi (xs : List ByteArray) (x : ByteArray) (n : Nat) (h : xs.length = n) : (xs ++ [x]).getD n ByteArray.empty = x := by
  subst h
  simp [List.getD_eq_getElem?_getD]

/-- A store of the k-th string into a row that holds the first k. -/
theorem store_mix {w wr : World} {ys : List ByteArray} {N k : Nat} {s : ByteArray} (hrow : wr.ownsRow w.heap.size 9 1 (.slice (some ⟨w.heap.size, 0, none⟩) N N) N (mix ys N k)) (hbel : Below w.heap.size w wr) (hs : s = ys.getD k ByteArray.empty) :
    (wr.setCell ⟨w.heap.size, k, none⟩ (.string s)).ownsRow w.heap.size 9 1 (.slice (some ⟨w.heap.size, 0, none⟩) N N) N (mix ys N (k + 1)) ∧ Below w.heap.size w (wr.setCell ⟨w.heap.size, k, none⟩ (.string s)) := by
  obtain ⟨hst, _⟩ := hrow.stored k (.string s)
  rw [hs, mix_step] at hst
  rw [hs]
  exact ⟨hst, hbel.setCell (Nat.le_refl _) _⟩

theorem cell_mix {w wr : World} {ys : List ByteArray} {N k : Nat} (hrow : wr.ownsRow w.heap.size 9 1 (.slice (some ⟨w.heap.size, 0, none⟩) N N) N (mix ys N k)) (j : Nat) (hj : j < N) : ∃ v, wr.cell? ⟨w.heap.size, j, none⟩ = some v :=
  ⟨_, (hrow.cellAt j (by omega)).trans (List.getElem?_eq_getElem (by rw [mix_length]; exact hj))⟩

set_option maxHeartbeats 400000 in
theorem snoc (ao : Option Addr) (n cap : Nat) (x : ByteArray) (xs : List ByteArray) (w : World) (hA : At w ao n xs) (hn : n ≤ 1048576) :
    Calls Try.prog 10 #[.slice ao n cap, .string x] w (Fresh (n + 1) (xs ++ [x]) w) := by
  obtain ⟨i0, hi, hz0, hz1, hz2⟩ := info_parts Try.info9
  have HL : Hid (xs.length = n) := hA.1
  go_enter Try.func10, Try.ntmps10
  go_wp2_with (first | (at_make; refine wpList_make_full _ rfl (.tmp 9) (.tmp 9) 22 rfl w.heap.size 9 i0 (.string ByteArray.empty) 1 Try.underlying22 hi hz0 hz1 .i64 .i64 _ _ (n + 1) rfl rfl (by omega) (by omega) (by rw [hz2]; omega) (by unfold maxLen; omega) (Nat.le_refl _) ?_; intro w1 hown hgrow))
  rw [mix_zero (xs ++ [x])] at hown
  go_loopw [6] (fun i wr => ∃ k : Nat, k ≤ n ∧ i = .int .i64 k ∧ wr.ownsRow w.heap.size 9 1 (.slice (some ⟨w.heap.size, 0, none⟩) (n + 1) (n + 1)) (n + 1) (mix (xs ++ [x]) (n + 1) k) ∧ Below w.heap.size w wr) (fun i _ => n - (intOf i).toNat)
  case atStart => exact ⟨0, Nat.zero_le _, rfl, hown, (Below.refl _ _).grown hgrow (Nat.le_refl _) (by simp)⟩
  case round =>
    obtain ⟨k, hk, rfl, hrow, hbel⟩ := hrel
    by_cases hlt : k < n
    · obtain ⟨b, off, rfl, hb, hc⟩ := hA.get k hlt
      obtain ⟨s, hs⟩ : ∃ s, s = xs.getD k ByteArray.empty := ⟨_, rfl⟩
      have hcr : wr.cell? ⟨b, off + k, none⟩ = some (.string s) := by rw [hs]; exact (hbel.cell (p := ⟨b, off + k, none⟩) hb).trans hc
      have hfr := hrow.frozenAt k
      obtain ⟨v, hv⟩ := cell_mix hrow k (by omega)
      have R := store_mix (s := s) hrow hbel (by rw [snoc_lo xs x k (by rw [HL.out]; exact hlt)]; exact hs)
      have RR : Hid (_ ∧ _) := R
      clear R hs hc hrow
      go_wp2
      go_roundw
      case rel => exact ⟨k + 1, by omega, by go_num, RR.out.1, RR.out.2⟩
      case measure => simp [intOf]; omega
    · obtain rfl : k = n := by omega
      have hfr := hrow.frozenAt k
      obtain ⟨v, hv⟩ := cell_mix hrow k (by omega)
      have R := store_mix (s := x) hrow hbel (snoc_hi xs x k HL.out).symm
      rw [mix_full (xs ++ [x]) (k + 1) (by simp [HL.out])] at R
      have RR : Hid (_ ∧ _) := R
      clear R hrow
      go_wp2
      go_ret
      exact Fresh.mk rfl RR.out.1 RR.out.2

set_option maxHeartbeats 400000 in
theorem consF (ao : Option Addr) (n cap : Nat) (x : ByteArray) (xs : List ByteArray) (w : World) (hA : At w ao n xs) (hn : n ≤ 1048576) :
    Calls Try.prog 11 #[.string x, .slice ao n cap] w (Fresh (n + 1) (x :: xs) w) := by
  obtain ⟨i0, hi, hz0, hz1, hz2⟩ := info_parts Try.info9
  have HL : Hid (xs.length = n) := hA.1
  go_enter Try.func11, Try.ntmps11
  go_wp2_with (first | (at_make; refine wpList_make_full _ rfl (.tmp 9) (.tmp 9) 22 rfl w.heap.size 9 i0 (.string ByteArray.empty) 1 Try.underlying22 hi hz0 hz1 .i64 .i64 _ _ (n + 1) rfl rfl (by omega) (by omega) (by rw [hz2]; omega) (by unfold maxLen; omega) (Nat.le_refl _) ?_; intro w1 hown hgrow; rw [mix_zero (x :: xs)] at hown; have hb1 := (Below.refl _ _).grown hgrow (Nat.le_refl _) (by simp); have hfr := hown.frozenAt 0; obtain ⟨v, hv⟩ := cell_mix hown 0 (by omega); have R := store_mix (s := x) hown hb1 rfl; have RR : Hid (_ ∧ _) := R; clear R hown hgrow hb1))
  go_loopw [6] (fun i wr => ∃ k : Nat, k ≤ n ∧ i = .int .i64 k ∧ wr.ownsRow w.heap.size 9 1 (.slice (some ⟨w.heap.size, 0, none⟩) (n + 1) (n + 1)) (n + 1) (mix (x :: xs) (n + 1) (k + 1)) ∧ Below w.heap.size w wr) (fun i _ => n - (intOf i).toNat)
  case atStart => exact ⟨0, Nat.zero_le _, rfl, RR.out.1, RR.out.2⟩
  case round =>
    clear hfr hv RR
    obtain ⟨k, hk, rfl, hrow, hbel⟩ := hrel
    by_cases hlt : k < n
    · obtain ⟨b, off, rfl, hb, hc⟩ := hA.get k hlt
      obtain ⟨s, hs⟩ : ∃ s, s = xs.getD k ByteArray.empty := ⟨_, rfl⟩
      have hcr : wr.cell? ⟨b, off + k, none⟩ = some (.string s) := by rw [hs]; exact (hbel.cell (p := ⟨b, off + k, none⟩) hb).trans hc
      have hfr := hrow.frozenAt (k + 1)
      obtain ⟨v, hv⟩ := cell_mix hrow (k + 1) (by omega)
      have R := store_mix (s := s) hrow hbel (by rw [hs]; simp [List.getD_eq_getElem?_getD])
      have RR : Hid (_ ∧ _) := R
      clear R hs hc hrow
      go_wp2
      go_roundw
      case rel => exact ⟨k + 1, by omega, by go_num, RR.out.1, RR.out.2⟩
      case measure => simp [intOf]; omega
    · obtain rfl : k = n := by omega
      rw [mix_full (x :: xs) (k + 1) (by simp [HL.out])] at hrow
      go_wp2
      go_ret
      exact Fresh.mk rfl hrow hbel

end Go.Proofs.Qxb6618263a
