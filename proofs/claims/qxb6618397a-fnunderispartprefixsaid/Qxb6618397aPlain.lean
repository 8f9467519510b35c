/-
  Seat b6618397a: the plain law on lists of bytes: no Go in sight.
-/
namespace Go.Proofs.Qxb6618397a

/-- The list p stands at the head of the list s. -/
def heads (p s : List UInt8) : Bool := decide (s.take p.length = p)

/-- What Under answers, of the bytes of rel and top: they are one, or rel begins with top and a slash (47). -/
def und (r t : List UInt8) : Bool := decide (r = t) || heads (t ++ [47]) r

theorem heads_iff (p s : List UInt8) : heads p s = true ↔ ∃ q, s = p ++ q := by
  unfold heads
  rw [decide_eq_true_iff]
  constructor
  · intro h
    exact ⟨s.drop p.length, (List.take_append_drop p.length s).symm.trans (by rw [h])⟩
  · rintro ⟨q, rfl⟩
    simp

theorem und_iff (r t : List UInt8) : und r t = true ↔ r = t ∨ ∃ q, r = t ++ 47 :: q := by
  unfold und
  rw [Bool.or_eq_true, decide_eq_true_iff, heads_iff]
  simp

/-- The same parent ahead of both paths keeps the answer. -/
theorem und_moved (p r t : List UInt8) : und (p ++ 47 :: r) (p ++ 47 :: t) = und r t := by
  rw [Bool.eq_iff_iff, und_iff, und_iff]
  simp

/-- A path behind a parent lies under the parent. -/
theorem und_child (p r : List UInt8) : und (p ++ 47 :: r) p = true := by
  rw [und_iff]
  exact .inr ⟨r, rfl⟩

/-- The parent does not lie under it. -/
theorem und_parent (p r : List UInt8) : und p (p ++ 47 :: r) = false := by
  rw [Bool.eq_false_iff]
  intro h
  rw [und_iff] at h
  rcases h with h | ⟨q, h⟩
  · have := congrArg List.length h
    simp at this
  · have := congrArg List.length h
    simp at this

end Go.Proofs.Qxb6618397a
