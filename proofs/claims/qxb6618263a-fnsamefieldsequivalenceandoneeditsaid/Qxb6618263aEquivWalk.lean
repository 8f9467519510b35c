/-
  Seat b6618263a: the walk of FnSameFieldsEquivalenceAndOneEdit (4).
-/
import Derived.Test.Qxb6618263aInv
import Derived.Deep.DeepCutAuto
import Derived.WalkSpells
namespace Go.Proofs.Qxb6618263a
open Go.RowKit

theorem eqB_symm (xs ys : List ByteArray) : eqB ys xs = eqB xs ys := by
  unfold eqB
  by_cases h : xs = ys
  · subst h; rfl
  · rw [decide_eq_false h, decide_eq_false (fun e => h e.symm)]

theorem eqB_self (xs : List ByteArray) : eqB xs xs = true := by unfold eqB; simp

theorem eqB_true {xs ys : List ByteArray} (h : eqB xs ys = true) : xs = ys := by unfold eqB at h; simpa using h

theorem list_eq {s t : ByteArray} (h : s.toList = t.toList) : s = t := by
  rw [ByteArray.toList_eq, ByteArray.toList_eq] at h
  cases s; cases t
  simpa using h

theorem edit_eq {xs : List ByteArray} {j : Nat} {s t : ByteArray} (hj : j < xs.length) (ht : t = xs.getD j ByteArray.empty) : eqB xs (xs.set j s) = (t.toList == s.toList) := by
  have ht' : t = xs[j] := by rw [ht]; simp [List.getD_eq_getElem?_getD, hj]
  by_cases h : t = s
  · subst h
    have e : xs.set j t = xs := by rw [ht']; exact List.set_getElem_self hj
    rw [e, eqB_self]
    simp
  · have h1 : (t.toList == s.toList) = false := by
      rw [beq_eq_false_iff_ne]
      exact fun e => h (list_eq e)
    rw [h1]
    refine eqB_miss (k := j) fun e => h ?_
    rw [ht, e]
    simp [List.getD_eq_getElem?_getD, hj]

set_option maxHeartbeats 4000000 in
set_option maxRecDepth 100000 in
theorem walk4 (ao bo co : Option Addr) (n m l cn cm cl : Nat) (xs ys zs : List ByteArray) (i : Int) (s : ByteArray) (w : World) (hX : At w ao n xs) (hY : At w bo m ys) (hZ : At w co l zs) (hn : n ≤ maxLen) (hm : m ≤ maxLen) (hl : l ≤ maxLen) :
    Calls Try.prog 4 #[.slice ao n cn, .slice bo m cm, .slice co l cl, .int .i64 i, .string s] w (Done w) := by
  obtain ⟨i0, hi, hz0, hz1, hz2⟩ := info_parts Try.info9
  have hsz9 : (Try.prog.info? 9).map (·.size) = some 1 := by kernel_rfl
  have hnil := fun (w : World) (a : Option Addr) (n c : Nat) => run_neq_slice_nil_any (P := Try.prog) w 22 9 a n c 0 0 Try.underlying22
  go_enter Try.func4, Try.ntmps4
  go_wp2_with fail
  refine (bytes12 ao bo co n m l cn cm cl xs ys zs i s _ hX hY hZ hn hm hl).mono ?_
  rintro e w' ⟨rfl, c, rfl, hc⟩
  cases c with
  | false =>
    go_wp2
    go_ret
    exact Done.mk rfl (Below.refl _ _)
  | true =>
    obtain ⟨hn2, hm2, hl2⟩ := hc rfl
    clear hc hn hm hl
    have I : Inv w w [(ao, n, xs), (bo, m, ys), (co, l, zs)] := ⟨Below.refl _ _, by simp [hX, hY, hZ]⟩
    clear hX hY hZ
    go_upto_if 26 with fail
    go_cut [0] (fun q wx => ∃ ao' c', q = .slice ao' n c' ∧ Inv w wx [(ao', n, xs), (bo, m, ys), (co, l, zs)])
    case first =>
      cases ao with
      | none =>
        go_wp2
        go_meet
        case rel => exact ⟨none, cn, rfl, I⟩
      | some a =>
        have hT := I.listAt (ao := some a) (n := n) (xs := xs) (by simp)
        go_wp2_with (first | (at_make; refine wpList_make_full _ rfl (.tmp 28) (.tmp 28) 22 rfl w.heap.size 9 i0 (.string ByteArray.empty) 1 Try.underlying22 hi hz0 hz1 .i64 .i64 _ _ n rfl rfl rfl rfl (by rw [hz2]; omega) (by unfold maxLen; omega) (Nat.le_refl _) ?_; intro w1 hown hgrow; obtain ⟨cur, hg, hcl⟩ := owns_cells hown; have hb1 := (Below.refl w.heap.size w).grown hgrow (Nat.le_refl _) (by simp); clear hown hgrow) | (refine wpList_copy_splice rfl (.tmp 30) (.tmp 31) 22 22 rfl 9 Try.underlying22 hsz9 _ _ _ _ _ _ rfl rfl w.heap.size 0 cur 9 hg (xs.map Value.string) (by simp [hT.1]) (fun h0 => ⟨rfl, hT.cells hb1 h0⟩) (by simpa [hT.1] using hcl) (one_cells xs) w.heap.size w hb1 (Nat.le_refl _) ?_; intro w2 hg2 hb2))
        go_meet
        case rel => exact ⟨some ⟨w.heap.size, 0, none⟩, n, rfl, ((I.thenTo hb2).plus (At.row hg2.out hT.1)).fewer (by simp)⟩
    case rest =>
      obtain ⟨a1, k1, rfl, I⟩ := hcut
      obtain ⟨v1, hv⟩ : ∃ v, v = wc := ⟨_, rfl⟩
      subst hv
      go_upto_if 35 with fail
      go_cut [1] (fun q wx => ∃ ao' c', q = .slice ao' m c' ∧ Inv w wx [(a1, n, xs), (ao', m, ys), (co, l, zs)])
      case first =>
        cases bo with
        | none =>
          go_wp2
          go_meet
          case rel => exact ⟨none, cm, rfl, I⟩
        | some a =>
          have hT := I.listAt (ao := some a) (n := m) (xs := ys) (by simp)
          go_wp2_with (first | (at_make; refine wpList_make_full _ rfl (.tmp 37) (.tmp 37) 22 rfl v1.heap.size 9 i0 (.string ByteArray.empty) 1 Try.underlying22 hi hz0 hz1 .i64 .i64 _ _ m rfl rfl rfl rfl (by rw [hz2]; omega) (by unfold maxLen; omega) (Nat.le_refl _) ?_; intro w1 hown hgrow; obtain ⟨cur, hg, hcl⟩ := owns_cells hown; have hb1 := (Below.refl v1.heap.size v1).grown hgrow (Nat.le_refl _) (by simp); clear hown hgrow) | (refine wpList_copy_splice rfl (.tmp 39) (.tmp 40) 22 22 rfl 9 Try.underlying22 hsz9 _ _ _ _ _ _ rfl rfl v1.heap.size 0 cur 9 hg (ys.map Value.string) (by simp [hT.1]) (fun h0 => ⟨rfl, hT.cells hb1 h0⟩) (by simpa [hT.1] using hcl) (one_cells ys) v1.heap.size v1 hb1 (Nat.le_refl _) ?_; intro w2 hg2 hb2))
          go_meet
          case rel => exact ⟨some ⟨v1.heap.size, 0, none⟩, m, rfl, ((I.thenTo hb2).plus (At.row hg2.out hT.1)).fewer (by simp)⟩
      case rest =>
        obtain ⟨b1, k2, rfl, I⟩ := hcut
        obtain ⟨v2, hv⟩ : ∃ v, v = wc := ⟨_, rfl⟩
        subst hv
        go_upto_if 44 with fail
        go_cut [2] (fun q wx => ∃ ao' c', q = .slice ao' l c' ∧ Inv w wx [(a1, n, xs), (b1, m, ys), (ao', l, zs)])
        case first =>
          cases co with
          | none =>
            go_wp2
            go_meet
            case rel => exact ⟨none, cl, rfl, I⟩
          | some a =>
            have hT := I.listAt (ao := some a) (n := l) (xs := zs) (by simp)
            go_wp2_with (first | (at_make; refine wpList_make_full _ rfl (.tmp 46) (.tmp 46) 22 rfl v2.heap.size 9 i0 (.string ByteArray.empty) 1 Try.underlying22 hi hz0 hz1 .i64 .i64 _ _ l rfl rfl rfl rfl (by rw [hz2]; omega) (by unfold maxLen; omega) (Nat.le_refl _) ?_; intro w1 hown hgrow; obtain ⟨cur, hg, hcl⟩ := owns_cells hown; have hb1 := (Below.refl v2.heap.size v2).grown hgrow (Nat.le_refl _) (by simp); clear hown hgrow) | (refine wpList_copy_splice rfl (.tmp 48) (.tmp 49) 22 22 rfl 9 Try.underlying22 hsz9 _ _ _ _ _ _ rfl rfl v2.heap.size 0 cur 9 hg (zs.map Value.string) (by simp [hT.1]) (fun h0 => ⟨rfl, hT.cells hb1 h0⟩) (by simpa [hT.1] using hcl) (one_cells zs) v2.heap.size v2 hb1 (Nat.le_refl _) ?_; intro w2 hg2 hb2))
            go_meet
            case rel => exact ⟨some ⟨v2.heap.size, 0, none⟩, l, rfl, ((I.thenTo hb2).plus (At.row hg2.out hT.1)).fewer (by simp)⟩
        case rest =>
          obtain ⟨c1, k3, rfl, I⟩ := hcut
          obtain ⟨v3, hv⟩ : ∃ v, v = wc := ⟨_, rfl⟩
          subst hv
          clear hnil hsz9 hi hz0 hz1 hz2
          go_wp2_with fail
          refine (addSize 0 (by omega) (by omega) a1 n k1 xs _ (I.listAt (by simp)) hn2).mono ?_
          rintro e w' ⟨rfl, r1, hr0, hr1, rfl⟩
          by_cases g1 : r1 ≤ 1048576
          rotate_left
          · go_wp2
            go_ret
            exact Done.mk rfl I.1
          go_wp2_with fail
          refine (addSize r1 hr0 g1 b1 m k2 ys _ (I.listAt (by simp)) hm2).mono ?_
          rintro e w' ⟨rfl, r2, hq0, hq1, rfl⟩
          clear hr0 hr1 
          by_cases g2 : r2 ≤ 1048576
          rotate_left
          · go_wp2
            go_ret
            exact Done.mk rfl I.1
          go_wp2_with fail
          refine (addSize r2 hq0 g2 c1 l k3 zs _ (I.listAt (by simp)) hl2).mono ?_
          rintro e w' ⟨rfl, r3, hr0, hr1, rfl⟩
          by_cases g3 : r3 ≤ 1048576
          rotate_left
          · go_wp2
            go_ret
            exact Done.mk rfl I.1
          go_wp2_with fail
          refine (addText r3 hr0 g3 s _).mono ?_
          rintro e w' ⟨rfl, r4, hq0, hq1, rfl⟩
          by_cases g4 : r4 ≤ 1048576
          rotate_left
          · go_wp2
            go_ret
            exact Done.mk rfl I.1
          obtain ⟨p, HP⟩ : ∃ p, Hid (eqB xs ys = p) := ⟨_, rfl⟩
          go_wp2_with fail
          refine (says a1 b1 n m k1 k2 xs ys p _ (I.listAt (by simp)) (I.listAt (by simp)) (by omega) (by omega) HP.out).mono ?_
          rintro e v4 ⟨rfl, hb⟩
          replace I := I.thenTo hb
          clear hb
          go_wp2_with fail
          refine (says b1 a1 m n k2 k1 ys xs p _ (I.listAt (by simp)) (I.listAt (by simp)) (by omega) (by omega) ((eqB_symm xs ys).trans HP.out)).mono ?_
          rintro e v5 ⟨rfl, hb⟩
          replace I := I.thenTo hb
          clear hb
          go_wp2_with fail
          refine (clone a1 n k1 xs _ (I.listAt (by simp)) hn2).mono ?_
          rintro e v6 ⟨d1, k4, rfl, hown, hb⟩
          replace I := (I.thenTo hb).plus (At.owned hown)
          clear hb hown
          go_wp2_with fail
          refine (says a1 d1 n n k1 k4 xs xs true _ (I.listAt (by simp)) (I.listAt (by simp)) (by omega) (by omega) (eqB_self xs)).mono ?_
          rintro e v7 ⟨rfl, hb⟩
          replace I := (I.thenTo hb).fewer (ms := [(a1, n, xs), (b1, m, ys), (c1, l, zs)]) (by simp)
          clear hb
          go_upto_region 32 with fail
          go_cut [95] (fun q wx => q = .bool false ∧ Inv w wx [(a1, n, xs), (b1, m, ys), (c1, l, zs)])
          case first =>
            cases p with
            | false =>
              go_wp2_with fail
              go_meet
              case rel => exact ⟨rfl, I⟩
            | true =>
              obtain ⟨q, HQ⟩ : ∃ q, Hid (eqB ys zs = q) := ⟨_, rfl⟩
              cases q with
              | false =>
                go_wp2_with fail
                refine (says b1 c1 m l k2 k3 ys zs false _ (I.listAt (by simp)) (I.listAt (by simp)) (by omega) (by omega) HQ.out).mono ?_
                rintro e v8 ⟨rfl, hb⟩
                go_wp2_with fail
                go_meet
                case rel => exact ⟨rfl, I.thenTo hb⟩
              | true =>
                have HR : Hid (eqB xs zs = true) := by
                  show eqB xs zs = true
                  rw [eqB_true HP.out]
                  exact HQ.out
                go_wp2_with fail
                refine (says b1 c1 m l k2 k3 ys zs true _ (I.listAt (by simp)) (I.listAt (by simp)) (by omega) (by omega) HQ.out).mono ?_
                rintro e v8 ⟨rfl, hb⟩
                replace I := I.thenTo hb
                clear hb
                go_wp2_with fail
                refine (says a1 c1 n l k1 k3 xs zs true _ (I.listAt (by simp)) (I.listAt (by simp)) (by omega) (by omega) HR.out).mono ?_
                rintro e v9 ⟨rfl, hb⟩
                go_wp2_with fail
                go_meet
                case rel => exact ⟨rfl, I.thenTo hb⟩
          case rest =>
            obtain ⟨rfl, I⟩ := hcut
            obtain ⟨v8, hv⟩ : ∃ v, v = wc := ⟨_, rfl⟩
            subst hv
            by_cases hi0 : 0 ≤ i
            rotate_left
            · go_wp2
              go_ret
              exact Done.mk rfl I.1
            obtain ⟨j, rfl⟩ := Int.eq_ofNat_of_zero_le hi0
            by_cases hj : j < n
            rotate_left
            · go_wp2
              go_ret
              exact Done.mk rfl I.1
            go_wp2_with fail
            refine (edit a1 n k1 j s xs _ (I.listAt (by simp)) hn2 hj).mono ?_
            rintro e v9 ⟨e1, k5, rfl, hown, hb⟩
            replace I := (I.thenTo hb).plus (At.owned hown)
            clear hb hown
            obtain ⟨b, off, rfl, hbb, hcell⟩ := (I.listAt (ao := a1) (n := n) (xs := xs) (by simp)).get j hj
            obtain ⟨t, ht⟩ : ∃ t, t = xs.getD j ByteArray.empty := ⟨_, rfl⟩
            rw [← ht] at hcell
            have HT : Hid (t = xs.getD j ByteArray.empty) := ht
            clear ht
            go_wp2_with fail
            have hE := edit_eq (xs := xs) (j := j) (s := s) (t := t) (by rw [(I.listAt (ao := some ⟨b, off, none⟩) (n := n) (xs := xs) (by simp)).1]; exact hj) HT.out
            generalize (t.toList == s.toList) = d at hE ⊢
            have HE : Hid (eqB xs (xs.set j s) = d) := hE
            clear hE HT hcell
            refine (says _ e1 n n k1 k5 xs (xs.set j s) d _ (I.listAt (by simp)) (I.listAt (by simp)) (by omega) (by omega) HE.out).mono ?_
            rintro e v10 ⟨rfl, hb⟩
            replace I := I.thenTo hb
            clear hb
            go_wp2_with fail
            refine (says e1 _ n n k5 k1 (xs.set j s) xs d _ (I.listAt (by simp)) (I.listAt (by simp)) (by omega) (by omega) ((eqB_symm _ _).trans HE.out)).mono ?_
            rintro e v11 ⟨rfl, hb⟩
            replace I := I.thenTo hb
            clear hb
            cases p with
            | false =>
              go_wp2_with fail
              go_ret
              exact Done.mk rfl I.1
            | true =>
              have HF : Hid (eqB (xs.set j s) ys = d) := by
                show eqB (xs.set j s) ys = d
                rw [← eqB_true HP.out]
                exact (eqB_symm _ _).trans HE.out
              go_wp2_with fail
              refine (says e1 b1 n m k5 k2 (xs.set j s) ys d _ (I.listAt (by simp)) (I.listAt (by simp)) (by omega) (by omega) HF.out).mono ?_
              rintro e v12 ⟨rfl, hb⟩
              replace I := I.thenTo hb
              clear hb
              go_wp2_with fail
              go_ret
              exact Done.mk rfl I.1

end Go.Proofs.Qxb6618263a
