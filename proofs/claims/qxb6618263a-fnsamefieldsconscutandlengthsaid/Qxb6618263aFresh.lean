/-
  Seat b6618263a: the contracts of the functions that make a fresh list: zzCloneStrings (9), zzSnocFresh (10), zzConsFresh (11), zzEditFresh (13).
-/
import Derived.Test.Qxb6618263aParts
import Derived.WalkSpells
namespace Go.Proofs.Qxb6618263a
open Go.RowKit

theorem Try.info9 : (Try.prog.info? 9).map (fun i => (i.zero, i.size, i.bytes)) = some (some (.string ByteArray.empty), 1, 16) := by kernel_rfl

/-- N cells: the first k hold the strings of ys, the others the empty string. -/
def mix (ys : List ByteArray) (N k : Nat) : List Value := (List.range N).map fun i => .string (if i < k then ys.getD i ByteArray.empty else ByteArray.empty)

theorem mix_zero (ys : List ByteArray) (N : Nat) : (madeCells (Value.string ByteArray.empty).cells (N * 1)).toList = mix ys N 0 := by
  apply List.ext_getElem?
  intro i
  simp [madeCells, mix, Value.cells, List.getElem?_map]
  by_cases h : i < N <;> simp [h, Nat.mod_one]

theorem mix_step (ys : List ByteArray) (N k : Nat) : (mix ys N k).set k (.string (ys.getD k ByteArray.empty)) = mix ys N (k + 1) := by
  apply List.ext_getElem?
  intro i
  simp only [mix, List.getElem?_set, List.getElem?_map, List.length_map, List.length_range]
  by_cases hi : i < N
  · rw [List.getElem?_range hi]
    by_cases hk : k = i
    · subst hk
      simp [hi]
    · have : (i < k + 1) ↔ i < k := by omega
      simp [hk, this]
  · rw [List.getElem?_eq_none (by simp; omega)]
    by_cases hk : k = i
    · subst hk
      simp [hi]
    · simp [hk]

theorem mix_full (ys : List ByteArray) (N : Nat) (h : ys.length = N) : mix ys N N = ys.map Value.string := by
  apply List.ext_getElem?
  intro i
  simp only [mix, List.getElem?_map]
  by_cases hi : i < N
  · rw [List.getElem?_range hi, List.getElem?_eq_getElem (by omega)]
    have h2 : i < ys.length := by omega
    simp [hi, List.getD_eq_getElem?_getD, h2]
  · rw [List.getElem?_eq_none (by simp; omega), List.getElem?_eq_none (by omega)]
    rfl

theorem mix_length (ys : List ByteArray) (N k : Nat) : (mix ys N k).length = N := by simp [mix]

/-- A row of strings that the call owns reads as those strings. -/
theorem At.owned {w : World} {base n cap : Nat} {ao : Option Addr} {ys : List ByteArray} (h : w.ownsRow base 9 1 (.slice ao n cap) n (ys.map Value.string)) : At w ao n ys := by
  have hl : ys.length = n := by have := h.1; simpa using this
  refine ⟨hl, fun hn => ?_⟩
  rcases h.2 with ⟨_, h0⟩ | ⟨g, c, cur, hv, _, hg, _, _, _, htake⟩
  · omega
  · obtain ⟨rfl, rfl⟩ : ao = some ⟨g, 0, none⟩ ∧ cap = c := by simpa using hv
    refine ⟨g, 0, rfl, (Array.getElem?_eq_some_iff.1 hg).1, fun i hi => ?_⟩
    rw [Nat.zero_add, h.cellAt i (by omega), List.getElem?_map, List.getElem?_eq_getElem (by omega)]
    have h2 : i < ys.length := by omega
    simp [List.getD_eq_getElem?_getD, h2]

/-- What a call that makes a fresh list leaves. -/
def Fresh (n : Nat) (ys : List ByteArray) (w : World) (e : Ending) (w' : World) : Prop :=
  ∃ ao cap, e = .returned (.slice ao n cap) ∧ w'.ownsRow w.heap.size 9 1 (.slice ao n cap) n (ys.map Value.string) ∧ Below w.heap.size w w'

theorem Fresh.mk {n cap : Nat} {ao : Option Addr} {ys : List ByteArray} {w w' : World} {e : Ending} (he : e = .returned (.slice ao n cap)) (ho : w'.ownsRow w.heap.size 9 1 (.slice ao n cap) n (ys.map Value.string)) (hb : Below w.heap.size w w') : Fresh n ys w e w' :=
  ⟨ao, cap, he, ho, hb⟩

set_option maxHeartbeats 400000 in
theorem clone (ao : Option Addr) (n cap : Nat) (xs : List ByteArray) (w : World) (hA : At w ao n xs) (hn : n ≤ 1048576) :
    Calls Try.prog 9 #[.slice ao n cap] w (Fresh n xs w) := by
  obtain ⟨i0, hi, hz0, hz1, hz2⟩ := info_parts Try.info9
  have hnil := fun (w : World) (a : Option Addr) (n c : Nat) => Lib.run_eql_slice_nil (P := Try.prog) w 22 9 a n c 0 0 Try.underlying22
  have HL : Hid (xs.length = n) := hA.1
  cases ao with
  | none =>
    have hn0 : n = 0 := by
      by_cases h : 0 < n
      · obtain ⟨b, off, e, _⟩ := hA.get 0 h
        simp at e
      · omega
    subst hn0
    have hx0 : xs = [] := List.eq_nil_of_length_eq_zero HL.out
    subst hx0
    go_enter Try.func9, Try.ntmps9
    go_wp2
    go_ret
    exact Fresh.mk rfl (World.ownsRow_nil _ _ _ _) (Below.refl _ _)
  | some a =>
    go_enter Try.func9, Try.ntmps9
    go_wp2_with (first | (at_make; refine wpList_make_full _ rfl (.tmp 8) (.tmp 8) 22 rfl w.heap.size 9 i0 (.string ByteArray.empty) 1 Try.underlying22 hi hz0 hz1 .i64 .i64 _ _ n rfl rfl rfl rfl (by rw [hz2]; omega) (by unfold maxLen; omega) (Nat.le_refl _) ?_; intro w1 hown hgrow))
    rw [mix_zero xs] at hown
    go_loopw [4] (fun i wr => ∃ k : Nat, k ≤ n ∧ i = .int .i64 k ∧ wr.ownsRow w.heap.size 9 1 (.slice (some ⟨w.heap.size, 0, none⟩) n n) n (mix xs n k) ∧ Below w.heap.size w wr) (fun i _ => n - (intOf i).toNat)
    case atStart => exact ⟨0, Nat.zero_le _, rfl, hown, (Below.refl _ _).grown hgrow (Nat.le_refl _) (by simp)⟩
    case round =>
      obtain ⟨k, hk, rfl, hrow, hbel⟩ := hrel
      by_cases hlt : k < n
      · obtain ⟨b, off, e, hb, hc⟩ := hA.get k hlt
        simp only [Option.some.injEq] at e
        subst e
        obtain ⟨s, hs⟩ : ∃ s, s = xs.getD k ByteArray.empty := ⟨_, rfl⟩
        have hcr : wr.cell? ⟨b, off + k, none⟩ = some (.string s) := by rw [hs]; exact (hbel.cell (p := ⟨b, off + k, none⟩) hb).trans hc
        have hfr := hrow.frozenAt k
        obtain ⟨v, hv⟩ : ∃ v, wr.cell? ⟨w.heap.size, k, none⟩ = some v := ⟨_, (hrow.cellAt k (by omega)).trans (List.getElem?_eq_getElem (by rw [mix_length]; exact hlt))⟩
        obtain ⟨hst, hgr⟩ := hrow.stored k (.string s)
        rw [hs, mix_step] at hst
        have HS : Hid (s = xs.getD k ByteArray.empty) := hs
        rw [← HS.out] at hst
        have R : Hid ((wr.setCell ⟨w.heap.size, k, none⟩ (.string s)).ownsRow w.heap.size 9 1 (.slice (some ⟨w.heap.size, 0, none⟩) n n) n (mix xs n (k + 1)) ∧ Below w.heap.size w (wr.setCell ⟨w.heap.size, k, none⟩ (.string s))) :=
          ⟨hst, hbel.setCell (Nat.le_refl _) _⟩
        clear hst hgr hs hc hrow
        go_wp2
        go_roundw
        case rel => exact ⟨k + 1, by omega, by go_num, R.out.1, R.out.2⟩
        case measure => simp [intOf]; omega
      · obtain rfl : k = n := by omega
        rw [mix_full xs k HL.out] at hrow
        go_wp2
        go_ret
        exact Fresh.mk rfl hrow hbel

end Go.Proofs.Qxb6618263a
