/-
  Seat b6618397a: the plain law on parts: a list of bytes cut at every slash (47); 'begins with' part by part is what Under answers. No Go in sight.
-/
import Derived.Test.Qxb6618397aPlain
namespace Go.Proofs.Qxb6618397a

/-- The parts of a list of bytes between slashes, empty parts too. -/
def splitL : List UInt8 → List (List UInt8)
  | [] => [[]]
  | c :: r => if c = 47 then [] :: splitL r else (c :: (splitL r).headD []) :: (splitL r).tail

/-- The parts joined by slashes again. -/
def joinL : List (List UInt8) → List UInt8
  | [] => []
  | [a] => a
  | a :: b :: r => a ++ 47 :: joinL (b :: r)

theorem splitL_cons (c : UInt8) (r : List UInt8) : splitL (c :: r) = if c = 47 then [] :: splitL r else (c :: (splitL r).headD []) :: (splitL r).tail := rfl

theorem splitL_ne (l : List UInt8) : ∃ h t, splitL l = h :: t := by
  cases l with
  | nil => exact ⟨_, _, rfl⟩
  | cons c r =>
    rw [splitL_cons]
    by_cases h : c = 47
    · rw [if_pos h]
      exact ⟨_, _, rfl⟩
    · rw [if_neg h]
      exact ⟨_, _, rfl⟩

/-- A slash parts the list. -/
theorem splitL_append (a b : List UInt8) : splitL (a ++ 47 :: b) = splitL a ++ splitL b := by
  induction a with
  | nil => simp [splitL]
  | cons c r ih =>
    rw [List.cons_append, splitL_cons, splitL_cons]
    by_cases h : c = 47
    · rw [if_pos h, if_pos h, ih]
      rfl
    · rw [if_neg h, if_neg h, ih]
      obtain ⟨x, y, e⟩ := splitL_ne r
      rw [e]
      rfl

/-- Without a slash there is one part. -/
theorem splitL_one (a : List UInt8) (h : ∀ c ∈ a, c ≠ 47) : splitL a = [a] := by
  induction a with
  | nil => rfl
  | cons c r ih =>
    rw [splitL_cons, if_neg (h c (by simp)), ih (fun x hx => h x (by simp [hx]))]
    rfl

theorem joinL_cons (c : UInt8) (h : List UInt8) (t : List (List UInt8)) : joinL ((c :: h) :: t) = c :: joinL (h :: t) := by
  cases t with
  | nil => rfl
  | cons x y => rfl

theorem joinL_splitL (l : List UInt8) : joinL (splitL l) = l := by
  induction l with
  | nil => rfl
  | cons c r ih =>
    rw [splitL_cons]
    obtain ⟨x, y, e⟩ := splitL_ne r
    by_cases h : c = 47
    · rw [if_pos h]
      rw [e] at ih
      rw [e, h, ← ih]
      rfl
    · rw [if_neg h]
      rw [e] at ih
      rw [e]
      show joinL ((c :: x) :: y) = _
      rw [joinL_cons, ih]

theorem joinL_append (x : List UInt8) (a : List (List UInt8)) (b : List UInt8) (r : List (List UInt8)) : joinL ((x :: a) ++ b :: r) = joinL (x :: a) ++ 47 :: joinL (b :: r) := by
  induction a generalizing x with
  | nil => rfl
  | cons y a ih =>
    show x ++ 47 :: joinL ((y :: a) ++ b :: r) = (x ++ 47 :: joinL (y :: a)) ++ 47 :: joinL (b :: r)
    rw [ih]
    simp

/-- The list of parts r begins with the list of parts t. -/
def preB (r t : List (List UInt8)) : Bool := decide (r.take t.length = t)

/-- THE LAW: Under's answer is 'begins with', part by part. -/
theorem und_parts (r t : List UInt8) : und r t = preB (splitL r) (splitL t) := by
  rw [Bool.eq_iff_iff, und_iff]
  unfold preB
  rw [decide_eq_true_iff]
  constructor
  · rintro (rfl | ⟨q, rfl⟩)
    · simp
    · rw [splitL_append]
      simp
  · intro h
    have e : splitL r = splitL t ++ (splitL r).drop (splitL t).length := (List.take_append_drop (splitL t).length (splitL r)).symm.trans (by rw [h])
    have hr := joinL_splitL r
    have ht := joinL_splitL t
    cases hd : (splitL r).drop (splitL t).length with
    | nil =>
      left
      rw [hd, List.append_nil] at e
      rw [← hr, e, ht]
    | cons b l =>
      right
      rw [hd] at e
      obtain ⟨x, y, e2⟩ := splitL_ne t
      rw [e, e2, joinL_append, ← e2, ht] at hr
      exact ⟨_, hr.symm⟩

/-- What a loop over the bytes needs: up to k the bytes from st on hold no slash, and the parts so far are those ahead of st. -/
def Cut (S : List UInt8) (ks : List (List UInt8)) (st k : Nat) : Prop :=
  splitL S = ks ++ splitL (S.drop st) ∧ ∀ c ∈ (S.drop st).take (k - st), c ≠ 47

theorem Cut.start (S : List UInt8) : Cut S [] 0 0 := ⟨rfl, fun c hc => by simp at hc⟩

theorem take_more (S : List UInt8) (st k : Nat) (hk : st ≤ k) (c : UInt8) (h : S[k]? = some c) : (S.drop st).take (k + 1 - st) = (S.drop st).take (k - st) ++ [c] := by
  have e : k + 1 - st = (k - st) + 1 := by omega
  rw [e, List.take_add_one, List.getElem?_drop, show st + (k - st) = k by omega, h]
  rfl

theorem Cut.pass {S : List UInt8} {ks : List (List UInt8)} {st k : Nat} (h : Cut S ks st k) (hk : st ≤ k) (c : UInt8) (hc : S[k]? = some c) (hn : c ≠ 47) : Cut S ks st (k + 1) := by
  refine ⟨h.1, fun x hx => ?_⟩
  rw [take_more S st k hk c hc] at hx
  rcases List.mem_append.1 hx with hx | hx
  · exact h.2 x hx
  · obtain rfl : x = c := by simpa using hx
    exact hn

theorem Cut.slash {S : List UInt8} {ks : List (List UInt8)} {st k : Nat} (h : Cut S ks st k) (hk : st ≤ k) (hc : S[k]? = some 47) : Cut S (ks ++ [(S.drop st).take (k - st)]) (k + 1) (k + 1) := by
  refine ⟨?_, fun x hx => by simp at hx⟩
  have e : S.drop st = (S.drop st).take (k - st) ++ 47 :: S.drop (k + 1) := by
    have h1 : (S.drop st).drop (k - st) = 47 :: S.drop (k + 1) := by
      rw [List.drop_drop, show st + (k - st) = k by omega]
      exact List.drop_eq_getElem?_toList_append.trans (by rw [hc]; rfl)
    rw [← h1, List.take_append_drop]
  have e2 : splitL (S.drop st) = [(S.drop st).take (k - st)] ++ splitL (S.drop (k + 1)) := (congrArg splitL e).trans (by rw [splitL_append, splitL_one _ h.2])
  rw [h.1, e2, List.append_assoc]

theorem Cut.done {S : List UInt8} {ks : List (List UInt8)} {st : Nat} (h : Cut S ks st S.length) : splitL S = ks ++ [S.drop st] := by
  rw [h.1, splitL_one]
  intro c hc
  exact h.2 c (by rw [List.take_of_length_le (by simp)]; exact hc)

end Go.Proofs.Qxb6618397a
