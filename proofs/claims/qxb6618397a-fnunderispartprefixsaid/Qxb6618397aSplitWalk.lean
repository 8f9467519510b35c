/-
  Seat b6618397a: the contract of splitSlashB1 (8).
-/
import Derived.Test.Qxb6618397aParts
import Derived.WalkSpells
namespace Go.Proofs.Qxb6618397a
open Go.RowKit

theorem Try.info9 : (Try.prog.info? 9).map (fun i => (i.zero, i.size, i.bytes)) = some (some (.string ByteArray.empty), 1, 16) := by kernel_rfl

/-- What the call leaves: a fresh list of strings, the parts of s. -/
def Split (s : ByteArray) (w : World) (e : Ending) (w' : World) : Prop :=
  ∃ ao cap ks, e = .returned (.slice ao ks.length cap) ∧ At w' ao ks.length ks ∧ bytesOf ks = splitL s.data.toList ∧ ks.length ≤ s.size + 1 ∧ Below w.heap.size w w'

theorem owns_more {w3 : World} {base : Nat} {v : Value} {ks : List ByteArray} {u : ByteArray} (h : w3.ownsRow base 9 1 v (ks.length + 1) (ks.map Value.string ++ [.string u])) : w3.ownsRow base 9 1 v (ks ++ [u]).length ((ks ++ [u]).map Value.string) := by
  rw [List.length_append, List.map_append]
  exact h

theorem ext_part (s : ByteArray) (b k : Nat) : (s.extract b k).data.toList = (s.data.toList.drop b).take (k - b) := by
  simp [ByteArray.data_extract]

theorem bytes_more (ks : List ByteArray) (u : ByteArray) : bytesOf (ks ++ [u]) = bytesOf ks ++ [u.data.toList] := by simp [bytesOf]

theorem at_byte (s : ByteArray) (k : Nat) (h : k < s.size) : s.data.toList[k]? = some s[k] := by
  have h2 : k < s.data.size := h
  rw [Array.getElem?_toList, Array.getElem?_eq_getElem h2]
  rfl

theorem byte_yes {c : UInt8} (h : ((c.toNat : Int) == 47) = true) : c = 47 := by
  have h2 : (c.toNat : Int) = 47 := by simpa using h
  exact UInt8.toNat_inj.1 (by show c.toNat = 47; omega)

theorem byte_no {c : UInt8} (h : ((c.toNat : Int) == 47) = false) : c ≠ 47 := by
  rintro rfl
  simp at h

/-- One part more, in the plain invariant. -/
theorem cut_slash {s : ByteArray} {ks : List ByteArray} {b k : Nat} (h : Cut s.data.toList (bytesOf ks) b k) (hbk : b ≤ k) (hk : k < s.size) (hc : ((s[k].toNat : Int) == 47) = true) : Cut s.data.toList (bytesOf (ks ++ [s.extract b k])) (k + 1) (k + 1) := by
  rw [bytes_more, ext_part]
  exact h.slash hbk (by rw [at_byte s k hk, byte_yes hc])

theorem cut_pass {s : ByteArray} {ks : List ByteArray} {b k : Nat} (h : Cut s.data.toList (bytesOf ks) b k) (hbk : b ≤ k) (hk : k < s.size) (hc : ((s[k].toNat : Int) == 47) = false) : Cut s.data.toList (bytesOf ks) b (k + 1) :=
  h.pass hbk _ (at_byte s k hk) (byte_no hc)

theorem cut_done {s : ByteArray} {ks : List ByteArray} {b : Nat} (h : Cut s.data.toList (bytesOf ks) b s.size) : bytesOf (ks ++ [s.extract b s.size]) = splitL s.data.toList := by
  have hl : s.data.toList.length = s.size := by simp
  rw [bytes_more, ext_part, ← hl]
  rw [← hl] at h
  rw [h.done, List.take_of_length_le (by simp)]

theorem owns_slice {w : World} {base n : Nat} {v : Value} {xs : List Value} (h : w.ownsRow base 9 1 v n xs) (hn : 0 < n) : ∃ g cap, v = .slice (some ⟨g, 0, none⟩) n cap := by
  rcases h.2 with ⟨_, h0⟩ | ⟨g, c, cur, hv, hb, _⟩
  · omega
  · exact ⟨g, c, hv⟩

theorem Split.mk {s : ByteArray} {w w' : World} {e : Ending} {ao : Option Addr} {cap : Nat} {ks : List ByteArray} (he : e = .returned (.slice ao ks.length cap)) (h : w'.ownsRow w.heap.size 9 1 (.slice ao ks.length cap) ks.length (ks.map Value.string)) (hk : bytesOf ks = splitL s.data.toList) (hl : ks.length ≤ s.size + 1) (hb : Below w.heap.size w w') : Split s w e w' :=
  ⟨ao, cap, ks, he, At.owned h, hk, hl, hb⟩

set_option maxHeartbeats 1000000 in
theorem split8 (s : ByteArray) (w : World) (hs : s.size ≤ 65536) : Calls Try.prog 8 #[.string s] w (Split s w) := by
  obtain ⟨i0, hi, hz0, hz1, hz2⟩ := info_parts Try.info9
  go_enter Try.func8, Try.ntmps8
  go_wp2_with (first | (at_make; refine wpList_make_own _ rfl _ _ 24 rfl w.heap.size 9 i0 (.string ByteArray.empty) 1 Try.underlying24 hi hz0 hz1 .i64 .i64 4 4 rfl rfl rfl (by rw [hz2]; omega) (by unfold maxLen; omega) (Nat.le_refl _) ?_; intro w1 hown hgrow))
  go_loopw [3, 4, 5] (fun v st i wr => ∃ (k b : Nat) (ks : List ByteArray), k ≤ s.size ∧ b ≤ k ∧ i = .int .i64 k ∧ st = .int .i64 b ∧ ks.length ≤ k ∧ wr.ownsRow w.heap.size 9 1 v ks.length (ks.map Value.string) ∧ Below w.heap.size w wr ∧ Cut s.data.toList (bytesOf ks) b k) (fun _ _ i _ => s.size - (intOf i).toNat)
  case atStart => exact ⟨0, 0, [], Nat.zero_le _, Nat.le_refl _, rfl, rfl, Nat.le_refl _, hown, (Below.refl _ _).grown hgrow (Nat.le_refl _) (by simp), Cut.start _⟩
  case round =>
    clear hown hgrow
    obtain ⟨k, b, ks, hk, hbk, rfl, rfl, hkl, hrow, hbel, hcut⟩ := hrel
    by_cases hlt : k < s.size
    · go_wp2_with (first | (at_builtin; refine wpList_append_own _ rfl _ _ 24 rfl w.heap.size 9 i0 (.string ByteArray.empty) 1 16 Try.underlying24 hi hz0 hz1 hz2 rfl (by decide) _ _ _ rfl (hrow.alloc _) ⟨wr.heap.size, 0, none⟩ 1 1 [.string (s.extract b k)] rfl rfl (cell_one_new _ _ _) (fun x hx => by simp at hx; subst hx; rfl) (by unfold maxLen; omega) (by omega) (by have := hbel.size; simp; omega) ?_; intro v' w3 hown' hgrow3 hnil3))
      · have hcc : ((s[k].toNat : Int) == 47) = true := by assumption
        have hb3 : Below w.heap.size w w3 := (hbel.alloc hbel.size _).grown hgrow3 (by have := hbel.size; simp; omega) (fun q hq => (hrow.lt q hq).1)
        go_roundw
        case rel => exact ⟨k + 1, k + 1, ks ++ [s.extract b k], by omega, by omega, by go_num, by go_num, by simp; omega, owns_more hown', hb3, cut_slash hcut hbk hlt hcc⟩
        case measure => simp [intOf]; omega
      · have hcc : ((s[k].toNat : Int) == 47) = false := by assumption
        go_roundw
        case rel => exact ⟨k + 1, b, ks, by omega, by omega, by go_num, rfl, by omega, hrow, hbel, cut_pass hcut hbk hlt hcc⟩
        case measure => simp [intOf]; omega
    · obtain rfl : k = s.size := by omega
      go_wp2_with (first | (at_builtin; refine wpList_append_own _ rfl _ _ 24 rfl w.heap.size 9 i0 (.string ByteArray.empty) 1 16 Try.underlying24 hi hz0 hz1 hz2 rfl (by decide) _ _ _ rfl (hrow.alloc _) ⟨wr.heap.size, 0, none⟩ 1 1 [.string (s.extract b s.size)] rfl rfl (cell_one_new _ _ _) (fun x hx => by simp at hx; subst hx; rfl) (by unfold maxLen; omega) (by omega) (by have := hbel.size; simp; omega) ?_; intro v' w3 hown' hgrow3 hnil3))
      have hb3 : Below w.heap.size w w3 := (hbel.alloc hbel.size _).grown hgrow3 (by have := hbel.size; simp; omega) (fun q hq => (hrow.lt q hq).1)
      have hown2 := owns_more hown'
      obtain ⟨g, cp, hv⟩ := owns_slice hown2 (by simp)
      subst hv
      go_ret
      exact Split.mk rfl hown2 (cut_done hcut) (by simp; omega) hb3

end Go.Proofs.Qxb6618397a
