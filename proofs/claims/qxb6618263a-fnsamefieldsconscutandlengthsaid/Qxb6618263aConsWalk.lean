/-
  Seat b6618263a: the walk of FnSameFieldsConsCutAndLength (3).
-/
import Derived.Test.Qxb6618263aInv
import Derived.Test.Qxb6618263aMore
import Derived.Test.Qxb6618263aCut
import Derived.Deep.DeepCutAuto
import Derived.Deep.QuietTactic
import Derived.BigQuiet
import Derived.WalkSpells
namespace Go.Proofs.Qxb6618263a
open Go.RowKit

set_option maxHeartbeats 4000000 in
set_option maxRecDepth 100000 in
theorem walk3 (ao bo : Option Addr) (n m cn cm : Nat) (xs ys : List ByteArray) (x y : ByteArray) (i : Int) (w : World) (hX : At w ao n xs) (hY : At w bo m ys) (hn : n ≤ maxLen) (hm : m ≤ maxLen) (hnc : n ≤ cn) (hmc : m ≤ cm) :
    Calls Try.prog 3 #[.slice ao n cn, .slice bo m cm, .string x, .string y, .int .i64 i] w (Done w) := by
  obtain ⟨i0, hi, hz0, hz1, hz2⟩ := info_parts Try.info9
  have hsz9 : (Try.prog.info? 9).map (·.size) = some 1 := by kernel_rfl
  have hnil := fun (w : World) (a : Option Addr) (n c : Nat) => run_neq_slice_nil_any (P := Try.prog) w 22 9 a n c 0 0 Try.underlying22
  go_enter Try.func3, Try.ntmps3
  go_wp2_with fail
  refine (bytes5 ao bo n m cn cm xs ys x y i _ hX hY hn hm).mono ?_
  rintro e w' ⟨rfl, c, rfl, hc⟩
  cases c with
  | false =>
    go_wp2
    go_ret
    exact Done.mk rfl (Below.refl _ _)
  | true =>
    obtain ⟨hn2, hm2⟩ := hc rfl
    clear hc hn hm
    have I : Inv w w [(ao, n, xs), (bo, m, ys)] := ⟨Below.refl _ _, by simp [hX, hY]⟩
    clear hX hY
    go_upto_if 25 with fail
    go_cut [0] (fun q wx => ∃ ao' c', q = .slice ao' n c' ∧ n ≤ c' ∧ Inv w wx [(ao', n, xs), (bo, m, ys)])
    case first =>
      cases ao with
      | none =>
        go_wp2
        go_meet
        case rel => exact ⟨none, cn, rfl, hnc, I⟩
      | some a =>
        have hT := I.listAt (ao := some a) (n := n) (xs := xs) (by simp)
        go_wp2_with (first | (at_make; refine wpList_make_full _ rfl (.tmp 27) (.tmp 27) 22 rfl w.heap.size 9 i0 (.string ByteArray.empty) 1 Try.underlying22 hi hz0 hz1 .i64 .i64 _ _ n rfl rfl rfl rfl (by rw [hz2]; omega) (by unfold maxLen; omega) (Nat.le_refl _) ?_; intro w1 hown hgrow; obtain ⟨cur, hg, hcl⟩ := owns_cells hown; have hb1 := (Below.refl w.heap.size w).grown hgrow (Nat.le_refl _) (by simp); clear hown hgrow) | (refine wpList_copy_splice rfl (.tmp 29) (.tmp 30) 22 22 rfl 9 Try.underlying22 hsz9 _ _ _ _ _ _ rfl rfl w.heap.size 0 cur 9 hg (xs.map Value.string) (by simp [hT.1]) (fun h0 => ⟨rfl, hT.cells hb1 h0⟩) (by simpa [hT.1] using hcl) (one_cells xs) w.heap.size w hb1 (Nat.le_refl _) ?_; intro w2 hg2 hb2))
        go_meet
        case rel => exact ⟨some ⟨w.heap.size, 0, none⟩, n, rfl, Nat.le_refl _, ((I.thenTo hb2).plus (At.row hg2.out hT.1)).fewer (by simp)⟩
    case rest =>
      obtain ⟨a1, k1, rfl, hk1, I⟩ := hcut
      obtain ⟨v1, hv⟩ : ∃ v, v = wc := ⟨_, rfl⟩
      subst hv
      clear hnc
      go_upto_if 34 with fail
      go_cut [1] (fun q wx => ∃ ao' c', q = .slice ao' m c' ∧ m ≤ c' ∧ Inv w wx [(a1, n, xs), (ao', m, ys)])
      case first =>
        cases bo with
        | none =>
          go_wp2
          go_meet
          case rel => exact ⟨none, cm, rfl, hmc, I⟩
        | some a =>
          have hT := I.listAt (ao := some a) (n := m) (xs := ys) (by simp)
          go_wp2_with (first | (at_make; refine wpList_make_full _ rfl (.tmp 36) (.tmp 36) 22 rfl v1.heap.size 9 i0 (.string ByteArray.empty) 1 Try.underlying22 hi hz0 hz1 .i64 .i64 _ _ m rfl rfl rfl rfl (by rw [hz2]; omega) (by unfold maxLen; omega) (Nat.le_refl _) ?_; intro w1 hown hgrow; obtain ⟨cur, hg, hcl⟩ := owns_cells hown; have hb1 := (Below.refl v1.heap.size v1).grown hgrow (Nat.le_refl _) (by simp); clear hown hgrow) | (refine wpList_copy_splice rfl (.tmp 38) (.tmp 39) 22 22 rfl 9 Try.underlying22 hsz9 _ _ _ _ _ _ rfl rfl v1.heap.size 0 cur 9 hg (ys.map Value.string) (by simp [hT.1]) (fun h0 => ⟨rfl, hT.cells hb1 h0⟩) (by simpa [hT.1] using hcl) (one_cells ys) v1.heap.size v1 hb1 (Nat.le_refl _) ?_; intro w2 hg2 hb2))
          go_meet
          case rel => exact ⟨some ⟨v1.heap.size, 0, none⟩, m, rfl, Nat.le_refl _, ((I.thenTo hb2).plus (At.row hg2.out hT.1)).fewer (by simp)⟩
      case rest =>
        obtain ⟨b1, k2, rfl, hk2, I⟩ := hcut
        obtain ⟨v3, hv⟩ : ∃ v, v = wc := ⟨_, rfl⟩
        subst hv
        clear hmc hnil hsz9 hi hz0 hz1 hz2
        go_wp2_with fail
        refine (addSize 0 (by omega) (by omega) a1 n k1 xs _ (I.listAt (by simp)) hn2).mono ?_
        rintro e w' ⟨rfl, r1, p0, p1, rfl⟩
        by_cases g1 : r1 ≤ 1048576
        rotate_left
        · go_wp2
          go_ret
          exact Done.mk rfl I.1
        go_wp2_with fail
        refine (addSize r1 p0 g1 b1 m k2 ys _ (I.listAt (by simp)) hm2).mono ?_
        rintro e w' ⟨rfl, r2, q0, q1, rfl⟩
        by_cases g2 : r2 ≤ 1048576
        rotate_left
        · go_wp2
          go_ret
          exact Done.mk rfl I.1
        clear p0 p1 g1
        go_wp2_with fail
        refine (addText r2 q0 g2 x _).mono ?_
        rintro e w' ⟨rfl, r3, p0, p1, rfl⟩
        by_cases g3 : r3 ≤ 1048576
        rotate_left
        · go_wp2
          go_ret
          exact Done.mk rfl I.1
        clear q0 q1 g2
        go_wp2_with fail
        refine (addText r3 p0 g3 y _).mono ?_
        rintro e w' ⟨rfl, r4, q0, q1, rfl⟩
        by_cases g4 : r4 ≤ 1048576
        rotate_left
        · go_wp2
          go_ret
          exact Done.mk rfl I.1
        clear p0 p1 g3 q0 q1
        obtain ⟨p, HP⟩ : ∃ p, Hid (eqB xs ys = p) := ⟨_, rfl⟩
        go_wp2_with fail
        refine (says a1 b1 n m k1 k2 xs ys p _ (I.listAt (by simp)) (I.listAt (by simp)) (by omega) (by omega) HP.out).mono ?_
        rintro e v4 ⟨rfl, hb⟩
        replace I := (I.thenTo hb).fewer (ms := [(a1, n, xs), (b1, m, ys)]) (by simp)
        clear hb
        go_wp2_with fail
        refine (clone a1 n k1 xs _ (I.listAt (by simp)) hn2).mono ?_
        rintro e v5 ⟨d1, k3, rfl, hown, hb⟩
        replace I := (I.thenTo hb).plus (At.owned hown)
        clear hb hown
        go_wp2_with fail
        refine (says a1 d1 n n k1 k3 xs xs true _ (I.listAt (by simp)) (I.listAt (by simp)) (by omega) (by omega) (eqB_refl xs)).mono ?_
        rintro e v6 ⟨rfl, hb⟩
        replace I := (I.thenTo hb).fewer (ms := [(a1, n, xs), (b1, m, ys)]) (by simp)
        clear hb
        go_wp2_with fail
        refine (clone b1 m k2 ys _ (I.listAt (by simp)) hm2).mono ?_
        rintro e v7 ⟨d2, k4, rfl, hown, hb⟩
        replace I := (I.thenTo hb).plus (At.owned hown)
        clear hb hown
        go_wp2_with fail
        refine (says b1 d2 m m k2 k4 ys ys true _ (I.listAt (by simp)) (I.listAt (by simp)) (by omega) (by omega) (eqB_refl ys)).mono ?_
        rintro e v8 ⟨rfl, hb⟩
        replace I := (I.thenTo hb).fewer (ms := [(a1, n, xs), (b1, m, ys)]) (by simp)
        clear hb
        go_upto_region 28 with fail
        go_cut [81] (fun q wx => q = .bool false ∧ Inv w wx [(a1, n, xs), (b1, m, ys)])
        case first =>
          by_cases hnm : n = m
          · have hb1 : ((n : Int) != (m : Int)) = false := by simp [hnm]
            go_wp2_with fail
            go_meet
            case rel => exact ⟨rfl, I⟩
          · have hp : p = false := by
              rw [← HP.out]
              exact eqB_len (by rw [(I.listAt (ao := a1) (n := n) (xs := xs) (by simp)).1, (I.listAt (ao := b1) (n := m) (xs := ys) (by simp)).1]; exact hnm)
            subst hp
            have hb1 : ((n : Int) != (m : Int)) = true := by simp; omega
            go_wp2_with fail
            go_meet
            case rel => exact ⟨rfl, I⟩
        case rest =>
          obtain ⟨rfl, I⟩ := hcut
          obtain ⟨v9, hv⟩ : ∃ v, v = wc := ⟨_, rfl⟩
          subst hv
          go_wp2_with fail
          refine (snoc a1 n k1 x xs _ (I.listAt (by simp)) hn2).mono ?_
          rintro e v10 ⟨d3, k5, rfl, hown, hb⟩
          replace I := (I.thenTo hb).plus (At.owned hown)
          clear hb hown
          go_wp2_with fail
          refine (says a1 d3 n (n + 1) k1 k5 xs (xs ++ [x]) false _ (I.listAt (by simp)) (I.listAt (by simp)) (by omega) (by omega) (eqB_len (by simp))).mono ?_
          rintro e v11 ⟨rfl, hb⟩
          replace I := (I.thenTo hb).fewer (ms := [(a1, n, xs), (b1, m, ys)]) (by simp)
          clear hb
          go_wp2_with fail
          refine (snoc b1 m k2 y ys _ (I.listAt (by simp)) hm2).mono ?_
          rintro e v12 ⟨d4, k6, rfl, hown, hb⟩
          replace I := (I.thenTo hb).plus (At.owned hown)
          clear hb hown
          go_wp2_with fail
          refine (says d4 b1 (m + 1) m k6 k2 (ys ++ [y]) ys false _ (I.listAt (by simp)) (I.listAt (by simp)) (by omega) (by omega) (eqB_len (by simp))).mono ?_
          rintro e v13 ⟨rfl, hb⟩
          replace I := (I.thenTo hb).fewer (ms := [(a1, n, xs), (b1, m, ys)]) (by simp)
          clear hb
          go_upto_region 34 with fail
          go_cut [105] (fun q wx => q = .bool false ∧ Inv w wx [(a1, n, xs), (b1, m, ys)])
          case first =>
            go_wp2_with fail
            refine (consF a1 n k1 x xs _ (I.listAt (by simp)) hn2).mono ?_
            rintro e v14 ⟨d5, k7, rfl, hown, hb⟩
            replace I := (I.thenTo hb).plus (At.owned hown)
            clear hb hown
            go_wp2_with fail
            refine (consF b1 m k2 y ys _ (I.listAt (by simp)) hm2).mono ?_
            rintro e v15 ⟨d6, k8, rfl, hown, hb⟩
            replace I := (I.thenTo hb).plus (At.owned hown)
            clear hb hown
            obtain ⟨d, hd⟩ : ∃ d, (x.toList == y.toList) = d := ⟨_, rfl⟩
            have HE : Hid (eqB (x :: xs) (y :: ys) = (d && p)) := by
              show _ = _
              rw [eqB_cons, hd, HP.out]
            cases d with
            | false =>
              go_wp2_with fail
              refine (says d5 d6 (n + 1) (m + 1) k7 k8 (x :: xs) (y :: ys) false _ (I.listAt (by simp)) (I.listAt (by simp)) (by omega) (by omega) HE.out).mono ?_
              rintro e v16 ⟨rfl, hb⟩
              replace I := (I.thenTo hb).fewer (ms := [(a1, n, xs), (b1, m, ys)]) (by simp)
              clear hb
              go_wp2_with fail
              go_meet
              case rel => exact ⟨rfl, I⟩
            | true =>
              go_wp2_with fail
              refine (says d5 d6 (n + 1) (m + 1) k7 k8 (x :: xs) (y :: ys) p _ (I.listAt (by simp)) (I.listAt (by simp)) (by omega) (by omega) HE.out).mono ?_
              rintro e v16 ⟨rfl, hb⟩
              replace I := (I.thenTo hb).fewer (ms := [(a1, n, xs), (b1, m, ys)]) (by simp)
              clear hb
              go_wp2_with fail
              go_meet
              case rel => exact ⟨rfl, I⟩
          case rest =>
            obtain ⟨rfl, I⟩ := hcut
            obtain ⟨v17, hv⟩ : ∃ v, v = wc := ⟨_, rfl⟩
            subst hv
            by_cases hi0 : 0 ≤ i
            rotate_left
            · go_wp2
              go_ret
              exact Done.mk rfl I.1
            obtain ⟨j, rfl⟩ := Int.eq_ofNat_of_zero_le hi0
            by_cases hj : j ≤ n
            rotate_left
            · go_wp2
              go_ret
              exact Done.mk rfl I.1
            by_cases hj2 : j ≤ m
            rotate_left
            · go_wp2
              go_ret
              exact Done.mk rfl I.1
            go_wp2_with fail
            have hjk1 : (j : Int) ≤ (k1 : Int) := by omega
            have hjk2 : (j : Int) ≤ (k2 : Int) := by omega
            obtain ⟨l1, HL1⟩ : ∃ l1, Hid (eqB (xs.take j) (ys.take j) = l1) := ⟨_, rfl⟩
            have hq1 : Hid (∀ q, Calls Try.prog 8 #[.slice a1 j k1, .slice b1 j k2] (v17.drewN q) fun e w' => e = .returned (.bool l1) ∧ ∃ n, w' = v17.drewN n) := by
              intro q
              have A1 := ((I.listAt (ao := a1) (n := n) (xs := xs) (by simp)).below (Nat.le_refl _) (below_drewN (Below.refl _ _) q)).takeN hj
              have A2 := ((I.listAt (ao := b1) (n := m) (xs := ys) (by simp)).below (Nat.le_refl _) (below_drewN (Below.refl _ _) q)).takeN hj2
              have c := Calls.quiet_of (same a1 b1 j j k1 k2 (xs.take j) (ys.take j) _ A1 A2 (by omega) (by omega))
              rw [HL1.out] at c
              exact c
            go_quiet ((go_at_call 8; exact hq1.out _))
            have hbq : Below v17.heap.size v17 (v17.drewN nq) := below_drewN (Below.refl _ _) nq
            generalize v17.drewN nq = v18 at hbq ⊢
            replace I := I.thenTo hbq
            clear hbq hq1
            go_wp2_with fail
            obtain ⟨l2, HL2⟩ : ∃ l2, Hid (eqB (xs.drop j) (ys.drop j) = l2) := ⟨_, rfl⟩
            have hq2 : Hid (∀ q, Calls Try.prog 8 #[.slice (if k1 = j then a1 else Option.map (fun x => x.add j) a1) (n - j) (k1 - j), .slice (if k2 = j then b1 else Option.map (fun x => x.add j) b1) (m - j) (k2 - j)] (v18.drewN q) fun e w' => e = .returned (.bool l2) ∧ ∃ n, w' = v18.drewN n) := by
              intro q
              have A1 := ((I.listAt (ao := a1) (n := n) (xs := xs) (by simp)).below (Nat.le_refl _) (below_drewN (Below.refl _ _) q)).cutN hj hk1
              have A2 := ((I.listAt (ao := b1) (n := m) (xs := ys) (by simp)).below (Nat.le_refl _) (below_drewN (Below.refl _ _) q)).cutN hj2 hk2
              have c := Calls.quiet_of (same _ _ (n - j) (m - j) (k1 - j) (k2 - j) (xs.drop j) (ys.drop j) _ A1 A2 (by omega) (by omega))
              rw [HL2.out] at c
              exact c
            go_quiet ((go_at_call 8; exact hq2.out _))
            have hbq : Below v18.heap.size v18 (v18.drewN nq) := below_drewN (Below.refl _ _) nq
            generalize v18.drewN nq = v19 at hbq ⊢
            replace I := I.thenTo hbq
            clear hbq hq2
            have hp : p = (l1 && l2) := by rw [← HP.out, eqB_cut xs ys j, HL1.out, HL2.out]
            cases l1 with
            | false =>
              simp only [Bool.false_and] at hp
              subst hp
              go_wp2_with fail
              all_goals (go_ret; exact Done.mk rfl I.1)
            | true =>
              simp only [Bool.true_and] at hp
              subst hp
              go_wp2_with fail
              all_goals (go_ret; exact Done.mk rfl I.1)

end Go.Proofs.Qxb6618263a
