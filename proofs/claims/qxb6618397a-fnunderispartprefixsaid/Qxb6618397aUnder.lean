/-
  Seat b6618397a: the contracts of HasPrefix (11, 10), Under (6) and the size guards (9, 5).
-/
import Derived.Test.Qxb6618397aRows
import Derived.Test.Qxb6618397aPlain
import Derived.WalkKit
import Derived.WalkSpells
namespace Go.Proofs.Qxb6618397a
open Go.RowKit

theorem list_bytes (s : ByteArray) : s.toList = s.data.toList := ByteArray.toList_eq s

theorem size_list (s : ByteArray) : s.data.toList.length = s.size := by simp

theorem data_inj {s t : ByteArray} (h : s.data.toList = t.data.toList) : s = t := by
  cases s; cases t
  simpa using h

theorem beq_dec (a b : List UInt8) : (a == b) = decide (a = b) := by rw [Bool.eq_iff_iff]; simp

theorem ext_list (s : ByteArray) (n : Nat) : (s.extract 0 n).toList = s.data.toList.take n := by
  rw [list_bytes]
  simp [ByteArray.data_extract]

theorem has11 (s p : ByteArray) (w : World) :
    Calls Try.prog 11 #[.string s, .string p] w fun e w' => e = .returned (.bool (heads p.data.toList s.data.toList)) ∧ w = w' := by
  by_cases h : p.size ≤ s.size
  · go_enter Try.func11, Try.ntmps11
    go_wp2
    go_ret
    refine ⟨?_, rfl⟩
    show Ending.returned (.bool ((s.extract 0 p.size).toList == p.toList)) = _
    rw [ext_list s p.size, list_bytes p, heads, size_list, beq_dec]
  · go_enter Try.func11, Try.ntmps11
    go_wp2
    go_ret
    refine ⟨?_, rfl⟩
    show Ending.returned (.bool false) = _
    rw [heads, decide_eq_false]
    intro e
    have := congrArg List.length e
    simp at this
    omega

theorem has10 (s p : ByteArray) (w : World) :
    Calls Try.prog 10 #[.string s, .string p] w fun e w' => e = .returned (.bool (heads p.data.toList s.data.toList)) ∧ w = w' := by
  go_enter Try.func10, Try.ntmps10
  go_wp2_with fail
  refine (has11 s p _).mono ?_
  rintro e w' ⟨rfl, rfl⟩
  go_wp2
  go_ret
  exact ⟨rfl, rfl⟩

/-- Under, its answer named by the caller. -/
theorem under6 (s p : ByteArray) (b : Bool) (w : World) (hp : p.size ≤ 900000) (hb : und s.data.toList p.data.toList = b) :
    Calls Try.prog 6 #[.string s, .string p] w fun e w' => e = .returned (.bool b) ∧ w = w' := by
  have HB : Hid (und s.data.toList p.data.toList = b) := hb
  clear hb
  by_cases h : s = p
  · subst h
    have hq : (s.toList == s.toList) = true := by simp
    go_enter Try.func6, Try.ntmps6
    go_wp2_with fail
    go_ret
    refine ⟨?_, rfl⟩
    rw [← HB.out, und]
    simp
  · have hq : (s.toList == p.toList) = false := by
      rw [beq_eq_false_iff_ne, list_bytes, list_bytes]
      exact fun e => h (data_inj e)
    have hlen : ¬ 9223372036854775807 < p.size + 1 := by omega
    go_enter Try.func6, Try.ntmps6
    go_wp2_with fail
    refine (has10 s _ _).mono ?_
    rintro e w' ⟨rfl, rfl⟩
    go_wp2_with fail
    go_ret
    refine ⟨?_, rfl⟩
    rw [← HB.out, und, decide_eq_false (fun e => h (data_inj e)), Bool.false_or]
    rfl

/-- The call answers some Bool; the world is as it was. -/
def Ans (w : World) (e : Ending) (w' : World) : Prop := w = w' ∧ ∃ c : Bool, e = .returned (.bool c)
theorem Ans.mk (c : Bool) {w : World} {e : Ending} (he : e = .returned (.bool c)) : Ans w e w := ⟨rfl, c, he⟩

theorem guard9 (r t p : ByteArray) (w : World) (hr : r.size ≤ maxLen) (ht : t.size ≤ maxLen) (hp : p.size ≤ maxLen) : Calls Try.prog 9 #[.string r, .string t, .string p] w (Ans w) := by
  unfold maxLen at hr ht hp
  go_enter Try.func9, Try.ntmps9
  go_wp2
  all_goals go_ret
  all_goals first | exact Ans.mk true rfl | exact Ans.mk false rfl

theorem guard5 (r t : ByteArray) (w : World) (hr : r.size ≤ maxLen) (ht : t.size ≤ maxLen) : Calls Try.prog 5 #[.string r, .string t] w (Ans w) := by
  unfold maxLen at hr ht
  go_enter Try.func5, Try.ntmps5
  go_wp2
  all_goals go_ret
  all_goals first | exact Ans.mk true rfl | exact Ans.mk false rfl

end Go.Proofs.Qxb6618397a
