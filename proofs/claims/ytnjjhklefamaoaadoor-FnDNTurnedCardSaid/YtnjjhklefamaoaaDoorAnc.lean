/-
  DN.AncestorOf over what lies behind pointers.
-/
import Derived.Test.YtnjjhklefamaoaaDoorEqual
namespace Go.Proofs.YtnjjhklefamaoaaDoor
open Go.RowKit
open Dn (Attr Name)

set_option maxHeartbeats 4000000 in
set_option maxRecDepth 100000 in
theorem ancestor_any (u v : Value) (x y : Name) (w : World) (hx : PDn w u x) (hy : PDn w v y) (hxs : ShortN x) (hys : ShortN y) : Calls Tryd.prog 24 #[u, v] w (BoolIs (Dn.anc x y) w) := by
  obtain ⟨F, hF⟩ : ∃ F, F = Dn.anc x y := ⟨_, rfl⟩
  rw [← hF]
  have HF := Lib.hid hF
  obtain ⟨xb, A, n, cap, rfl, c0, hn, hnc, hcm, hxa⟩ := hx
  obtain ⟨yb, A2, m, cap2, rfl, c1, hm, hmc, hcm2, hya⟩ := hy
  have HX := Lib.hid hxa
  have HY := Lib.hid hya
  have HC := Lib.hid (And.intro c0 c1)
  have HS := Lib.hid (And.intro hxs hys)
  unfold maxLen at hcm2
  clear hF hxa hya hxs hys hcm
  go_enter Tryd.func24, Tryd.ntmps24
  go_wp2_with fail
  refine K.wp_region_grew (by kernel_rfl) (by kernel_rfl) ?_
  repeat (first
    | go_big_quiet_skip
    | (go_big_quiet_want; go_big_quiet_op; go_big_quiet_on)
    | (go_big_quiet_want; go_big_quiet_op; refine ⟨_, fun _ _ => rfl, ?_⟩; go_big_quiet_on)
    | (go_big_quiet_want; refine K.quiet_cell (v := ?_) ?_ _ _ rfl rfl ?_ ?_
       rotate_left
       · assumption
       · (intro w hw; go_simp)
       simp only [Act.put, List.setIfInBounds_toArray, List.set_cons_zero, List.set_cons_succ]
       go_big_quiet_on)
    | (go_big_quiet_want; refine K.quiet_load _ _ rfl _ rfl ?_ ?_ ?_
       rotate_left
       · assumption
       simp only [Act.put, List.setIfInBounds_toArray, List.set_cons_zero, List.set_cons_succ]
       go_big_quiet_on))
  refine wpQuiet_nil ?_
  intro w' hw'
  have HW := Lib.hid hw'
  have d0 := HW.out.cell c0
  have d1 := HW.out.cell c1
  clear hw' c0 c1
  by_cases hnm : n < m
  · obtain ⟨ab2, ao2, rfl, hcs2⟩ := HY.out.2 (by omega)
    have HCS2 := Lib.hid hcs2
    clear hcs2
    by_cases hn0 : 0 < n
    · go_wp2_with fail
      have q0 : (0 : Int) ≤ (m : Int) - (n : Int) := by omega
      have q1 : (m : Int) - (n : Int) ≤ (m : Int) := by omega
      have q2 : (m : Int) ≤ (cap2 : Int) := by omega
      have q3 : (m : Int) - (n : Int) < (cap2 : Int) := by omega
      have q4 : ((m : Int) - (n : Int)).toNat = m - n := by omega
      refine K.wp_region_grew (by kernel_rfl) (by kernel_rfl) ?_
      repeat (first
        | go_big_quiet_skip
        | (go_big_quiet_want; go_big_quiet_op; go_big_quiet_on)
        | (go_big_quiet_want; go_big_quiet_op; refine ⟨_, fun _ _ => rfl, ?_⟩; go_big_quiet_on)
        | (go_big_quiet_want; refine K.quiet_cell (v := ?_) ?_ _ _ rfl rfl ?_ ?_
           rotate_left
           · assumption
           · (intro w hw; go_simp)
           simp only [Act.put, List.setIfInBounds_toArray, List.set_cons_zero, List.set_cons_succ]
           go_big_quiet_on)
        | (go_big_quiet_want; refine K.quiet_load _ _ rfl _ rfl ?_ ?_ ?_
           rotate_left
           · assumption
           simp only [Act.put, List.setIfInBounds_toArray, List.set_cons_zero, List.set_cons_succ]
           go_big_quiet_on))
      refine wpQuiet_nil ?_
      intro w2 hw2
      have HW2 := Lib.hid (HW.out.then hw2)
      clear hw2
      have d0 := HW2.out.cell HC.out.1
      have d1 := HW2.out.cell HC.out.2
      go_wp2_with fail
      go_loopw [39] (fun i wr => ∃ k : Nat, k ≤ n ∧ i = .int .i64 k ∧ K.Grew w wr ∧ Hid (∀ j, j < k → Dn.rdnEq (Dn.at' x j) (Dn.at' y (m - n + j)) = true)) (fun i _ => n - (intOf i).toNat)
      case atStart => exact ⟨0, by omega, rfl, HW2.out, Lib.hid fun j hj => by omega⟩
      case round =>
        obtain ⟨k, hk, rfl, hb, HN⟩ := hrel
        have HB := Lib.hid hb
        clear hb d0 d1
        by_cases hlt : k < n
        · obtain ⟨ab, ao, rfl, hcs⟩ := HX.out.2 (by omega)
          obtain ⟨v1, e1', hv1⟩ := hcs k hlt
          obtain ⟨v2, e2', hv2⟩ := HCS2.out (m - n + k) (by omega)
          rw [← Nat.add_assoc] at e2'
          have c0 := HB.out.cell HC.out.1
          have e1 := HB.out.cell e1'
          have e2 := HB.out.cell e2'
          have H1 := Lib.hid (hv1.grew HB.out)
          have H2 := Lib.hid (hv2.grew HB.out)
          have z1 := Lib.hid (HS.out.1 _ (at_mem (l := x) (k := k) (by rw [HX.out.1]; exact hlt)))
          have z2 := Lib.hid (HS.out.2 _ (at_mem (l := y) (k := m - n + k) (by rw [HY.out.1]; omega)))
          have HNS := Lib.hid (fun h => AllTo.snoc (P := fun j => Dn.rdnEq (Dn.at' x j) (Dn.at' y (m - n + j)) = true) HN.out h)
          have HNO := Lib.hid (fun h : Dn.rdnEq (Dn.at' x k) (Dn.at' y (m - n + k)) = false => show Dn.anc x y = false from by
            unfold Dn.anc Dn.ancBy
            rw [Dn.allB_false (i := k) (by rw [HX.out.1]; exact hlt) (by rw [HX.out.1, HY.out.1]; exact h), Bool.and_false])
          clear hcs e1' e2' hv1 hv2 HN
          obtain ⟨p1, hp1⟩ : ∃ b, v1 = .pointer (some ⟨b, 0, none⟩) := by obtain ⟨b, _, _, _, e, _⟩ := H1.out; exact ⟨b, e⟩
          obtain ⟨p2, hp2⟩ : ∃ b, v2 = .pointer (some ⟨b, 0, none⟩) := by obtain ⟨b, _, _, _, e, _⟩ := H2.out; exact ⟨b, e⟩
          subst hp1 hp2
          have b0 : (0 : Int) ≤ (k : Int) := by omega
          have b1 : (k : Int) < (n : Int) := by omega
          have b2 : (k : Int) < ((m - (m - n) : Nat) : Int) := by omega
          generalize Dn.at' x k = xk at *
          generalize Dn.at' y (m - n + k) = yk at *
          cases hq : Dn.rdnEq xk yk with
          | false =>
            have HQ := Lib.hid hq
            clear hq
            have h41 : ∀ w', K.Grew wr w' → Calls Tryd.prog 41 #[.pointer (some ⟨p1, 0, none⟩), .pointer (some ⟨p2, 0, none⟩)] w' (BoolIs false w') := fun w' hw' => by
              have := rdnEqual_any _ _ xk yk w' (H1.out.grew hw') (H2.out.grew hw') z1.out z2.out
              rwa [HQ.out] at this
            go_wp2_with fail
            refine K.wp_region_grew (by kernel_rfl) (by kernel_rfl) ?_
            repeat (first
              | go_big_quiet_skip
              | (go_big_quiet_want; go_big_quiet_op; go_big_quiet_on)
              | (go_big_quiet_want; go_big_quiet_op; refine ⟨_, fun _ _ => rfl, ?_⟩; go_big_quiet_on)
              | (go_big_quiet_want; refine K.quiet_cell (v := ?_) ?_ _ _ rfl rfl ?_ ?_
                 rotate_left
                 · assumption
                 · (intro w hw; go_simp)
                 simp only [Act.put, List.setIfInBounds_toArray, List.set_cons_zero, List.set_cons_succ]
                 go_big_quiet_on)
              | (go_big_quiet_want; refine K.quiet_load _ _ rfl _ rfl ?_ ?_ ?_
                 rotate_left
                 · assumption
                 simp only [Act.put, List.setIfInBounds_toArray, List.set_cons_zero, List.set_cons_succ]
                 go_big_quiet_on)
              | (go_big_quiet_want; go_big_quiet_op; apply Exists.intro
                 refine ⟨fun w hw => ?_, ?_⟩
                 · first | with_reducible exact quiet_of_bool hw (h41 _ hw)
                 go_big_quiet_on))
            refine wpQuiet_nil ?_
            intro w' hw'
            have HG := Lib.hid hw'
            clear hw'
            go_wp2_with fail
            go_ret
            exact ⟨ret_bool (by rw [HF.out, HNO.out HQ.out]), HB.out.then HG.out⟩
          | true =>
            have HQ := Lib.hid hq
            clear hq
            have h41 : ∀ w', K.Grew wr w' → Calls Tryd.prog 41 #[.pointer (some ⟨p1, 0, none⟩), .pointer (some ⟨p2, 0, none⟩)] w' (BoolIs true w') := fun w' hw' => by
              have := rdnEqual_any _ _ xk yk w' (H1.out.grew hw') (H2.out.grew hw') z1.out z2.out
              rwa [HQ.out] at this
            go_wp2_with fail
            refine K.wp_region_grew (by kernel_rfl) (by kernel_rfl) ?_
            repeat (first
              | go_big_quiet_skip
              | (go_big_quiet_want; go_big_quiet_op; go_big_quiet_on)
              | (go_big_quiet_want; go_big_quiet_op; refine ⟨_, fun _ _ => rfl, ?_⟩; go_big_quiet_on)
              | (go_big_quiet_want; refine K.quiet_cell (v := ?_) ?_ _ _ rfl rfl ?_ ?_
                 rotate_left
                 · assumption
                 · (intro w hw; go_simp)
                 simp only [Act.put, List.setIfInBounds_toArray, List.set_cons_zero, List.set_cons_succ]
                 go_big_quiet_on)
              | (go_big_quiet_want; refine K.quiet_load _ _ rfl _ rfl ?_ ?_ ?_
                 rotate_left
                 · assumption
                 simp only [Act.put, List.setIfInBounds_toArray, List.set_cons_zero, List.set_cons_succ]
                 go_big_quiet_on)
              | (go_big_quiet_want; go_big_quiet_op; apply Exists.intro
                 refine ⟨fun w hw => ?_, ?_⟩
                 · first | with_reducible exact quiet_of_bool hw (h41 _ hw)
                 go_big_quiet_on))
            refine wpQuiet_nil ?_
            intro w' hw'
            have HG := Lib.hid hw'
            clear hw'
            go_wp2_with fail
            go_roundw
            case rel => exact ⟨k + 1, by omega, by go_num, HB.out.then HG.out, Lib.hid (HNS.out HQ.out)⟩
            case measure => simp [intOf]; omega
        · have hy : Dn.anc x y = true := by
            unfold Dn.anc Dn.ancBy
            rw [HX.out.1, HY.out.1, Bool.and_eq_true, decide_eq_true_eq, Dn.allB_iff]
            exact ⟨hnm, fun j hj => HN.out j (by omega)⟩
          have HYY := Lib.hid hy
          clear hy
          go_wp2_with fail
          go_ret
          exact ⟨ret_bool (by rw [HF.out, HYY.out]), HB.out⟩
    · have hn1 : n = 0 := by omega
      have hy : Dn.anc x y = true := by
        unfold Dn.anc Dn.ancBy
        rw [HX.out.1, HY.out.1, Bool.and_eq_true, decide_eq_true_eq, Dn.allB_iff]
        exact ⟨hnm, fun j hj => by omega⟩
      have HYY := Lib.hid hy
      clear hy hn0
      subst hn1
      go_wp2_with fail
      have q0 : (0 : Int) ≤ (m : Int) := by omega
      have q2 : (m : Int) ≤ (cap2 : Int) := by omega
      refine K.wp_region_grew (by kernel_rfl) (by kernel_rfl) ?_
      repeat (first
        | go_big_quiet_skip
        | (go_big_quiet_want; go_big_quiet_op; go_big_quiet_on)
        | (go_big_quiet_want; go_big_quiet_op; refine ⟨_, fun _ _ => rfl, ?_⟩; go_big_quiet_on)
        | (go_big_quiet_want; refine K.quiet_cell (v := ?_) ?_ _ _ rfl rfl ?_ ?_
           rotate_left
           · assumption
           · (intro w hw; go_simp)
           simp only [Act.put, List.setIfInBounds_toArray, List.set_cons_zero, List.set_cons_succ]
           go_big_quiet_on)
        | (go_big_quiet_want; refine K.quiet_load _ _ rfl _ rfl ?_ ?_ ?_
           rotate_left
           · assumption
           simp only [Act.put, List.setIfInBounds_toArray, List.set_cons_zero, List.set_cons_succ]
           go_big_quiet_on))
      refine wpQuiet_nil ?_
      intro w2 hw2
      have HW2 := Lib.hid (HW.out.then hw2)
      clear hw2
      have d0 := HW2.out.cell HC.out.1
      have d1 := HW2.out.cell HC.out.2
      go_wp2_with fail
      all_goals
        go_loopw [39] (fun i wr => i = .int .i64 0 ∧ wr = w2) (fun i _ => 1 - (intOf i).toNat)
        case atStart => exact ⟨rfl, rfl⟩
        case round =>
          obtain ⟨rfl, rfl⟩ := hrel
          go_wp2_with fail
          go_ret
          exact ⟨ret_bool (by rw [HF.out, HYY.out]), HW2.out⟩
  · have hy : Dn.anc x y = false := by
      unfold Dn.anc Dn.ancBy
      rw [HX.out.1, HY.out.1, decide_eq_false hnm]; rfl
    have HYY := Lib.hid hy
    clear hy
    go_wp2_with fail
    go_ret
    exact ⟨ret_bool (by rw [HF.out, HYY.out]), HW.out⟩
end Go.Proofs.YtnjjhklefamaoaaDoor
