/-
  RelativeDN.Equal, DN.Equal, DN.AncestorOf over what lies behind pointers.
-/
import Derived.Test.YtnjjhklefamaoaaDoorPtr
namespace Go.Proofs.YtnjjhklefamaoaaDoor
open Go.RowKit
open Dn (Attr Name)

set_option maxHeartbeats 4000000 in
set_option maxRecDepth 100000 in
theorem rdnEqual_any (u v : Value) (r o : List Attr) (w : World) (hr : PRdn w u r) (ho : PRdn w v o) (hrs : Short r) (hos : Short o) : Calls Tryd.prog 41 #[u, v] w (BoolIs (Dn.rdnEq r o) w) := by
  obtain ⟨F, hF⟩ : ∃ F, F = Dn.rdnEq r o := ⟨_, rfl⟩
  rw [← hF]
  have HF := Lib.hid hF
  have HR := Lib.hid hr
  have HO := Lib.hid ho
  obtain ⟨rb, A, n, cap, rfl, c0, hn, hra⟩ := hr
  obtain ⟨ob, A2, m, cap2, rfl, c1, hm, hoa⟩ := ho
  have HRA := Lib.hid hra
  have HOA := Lib.hid hoa
  have HC := Lib.hid (And.intro c0 c1)
  have HS := Lib.hid (And.intro hrs hos)
  clear hF hra hoa hrs hos
  go_enter Tryd.func41, Tryd.ntmps41
  go_wp2_with fail
  refine K.wp_region_grew (by kernel_rfl) (by kernel_rfl) ?_
  repeat (first
    | go_big_quiet_skip
    | (go_big_quiet_want; go_big_quiet_op; go_big_quiet_on)
    | (go_big_quiet_want; go_big_quiet_op; refine ⟨_, fun _ _ => rfl, ?_⟩; go_big_quiet_on)
    | (go_big_quiet_want; refine K.quiet_cell (v := ?_) ?_ _ _ rfl rfl ?_ ?_
       rotate_left
       · assumption
       · (intro w hw; go_simp)
       simp only [Act.put, List.setIfInBounds_toArray, List.set_cons_zero, List.set_cons_succ]
       go_big_quiet_on)
    | (go_big_quiet_want; refine K.quiet_load _ _ rfl _ rfl ?_ ?_ ?_
       rotate_left
       · assumption
       simp only [Act.put, List.setIfInBounds_toArray, List.set_cons_zero, List.set_cons_succ]
       go_big_quiet_on))
  refine wpQuiet_nil ?_
  intro w' hw'
  have HW := Lib.hid hw'
  have d0 := HW.out.cell c0
  have d1 := HW.out.cell c1
  clear hw' c0 c1
  by_cases hnm : n = m
  · have HE := Lib.hid (show r.length = o.length from by rw [HRA.out.1, HOA.out.1]; exact hnm)
    subst hnm
    go_wp2_with fail
    refine (hasAll_any _ A2 n cap2 r o _ (HR.out.grew HW.out) (HOA.out.grew HW.out) hm HS.out.1 HS.out.2).mono ?_
    rintro e w2 ⟨rfl, hb⟩
    have HB := Lib.hid (HW.out.then hb)
    have d2 := HB.out.cell HC.out.1
    clear hb d0 d1
    cases h1 : Dn.hasAll r o with
    | false =>
      have hy : Dn.rdnEq r o = false := by unfold Dn.rdnEq; rw [h1]; simp
      have HY := Lib.hid hy
      clear h1 hy
      go_wp2_with fail
      go_ret
      exact ⟨ret_bool (by rw [HF.out, HY.out]), HB.out⟩
    | true =>
      have hy : Dn.rdnEq r o = Dn.hasAll o r := by unfold Dn.rdnEq; rw [h1, HE.out]; simp
      have HY := Lib.hid hy
      clear h1 hy
      go_wp2_with fail
      refine (hasAll_any _ A n cap o r _ (HO.out.grew HB.out) (HRA.out.grew HB.out) hn HS.out.2 HS.out.1).mono ?_
      rintro e w3 ⟨rfl, hb⟩
      have HB3 := Lib.hid (HB.out.then hb)
      clear hb d2
      go_wp2_with fail
      go_ret
      exact ⟨ret_bool (by rw [HF.out, HY.out]), HB3.out⟩
  · have hy : Dn.rdnEq r o = false := by
      unfold Dn.rdnEq
      rw [HRA.out.1, HOA.out.1, decide_eq_false hnm]; rfl
    have HY := Lib.hid hy
    clear hy
    have t1 : ((n : Int) == (m : Int)) = false := by simp; omega
    have t2 : ((n : Int) != (m : Int)) = true := by simp; omega
    go_wp2_with fail
    go_ret
    exact ⟨ret_bool (by rw [HF.out, HY.out]), HW.out⟩

def ShortN (l : Name) : Prop := ∀ x ∈ l, Short x

set_option maxHeartbeats 4000000 in
set_option maxRecDepth 100000 in
theorem dnEqual_any (u v : Value) (x y : Name) (w : World) (hx : PDn w u x) (hy : PDn w v y) (hxs : ShortN x) (hys : ShortN y) : Calls Tryd.prog 26 #[u, v] w (BoolIs (Dn.eqDN x y) w) := by
  obtain ⟨F, hF⟩ : ∃ F, F = Dn.eqDN x y := ⟨_, rfl⟩
  rw [← hF]
  have HF := Lib.hid hF
  obtain ⟨xb, A, n, cap, rfl, c0, hn, hnc, hcm, hxa⟩ := hx
  obtain ⟨yb, A2, m, cap2, rfl, c1, hm, hmc, hcm2, hya⟩ := hy
  have HX := Lib.hid hxa
  have HY := Lib.hid hya
  have HC := Lib.hid (And.intro c0 c1)
  have HS := Lib.hid (And.intro hxs hys)
  clear hF hxa hya hxs hys hcm hcm2
  go_enter Tryd.func26, Tryd.ntmps26
  go_wp2_with fail
  refine K.wp_region_grew (by kernel_rfl) (by kernel_rfl) ?_
  repeat (first
    | go_big_quiet_skip
    | (go_big_quiet_want; go_big_quiet_op; go_big_quiet_on)
    | (go_big_quiet_want; go_big_quiet_op; refine ⟨_, fun _ _ => rfl, ?_⟩; go_big_quiet_on)
    | (go_big_quiet_want; refine K.quiet_cell (v := ?_) ?_ _ _ rfl rfl ?_ ?_
       rotate_left
       · assumption
       · (intro w hw; go_simp)
       simp only [Act.put, List.setIfInBounds_toArray, List.set_cons_zero, List.set_cons_succ]
       go_big_quiet_on)
    | (go_big_quiet_want; refine K.quiet_load _ _ rfl _ rfl ?_ ?_ ?_
       rotate_left
       · assumption
       simp only [Act.put, List.setIfInBounds_toArray, List.set_cons_zero, List.set_cons_succ]
       go_big_quiet_on))
  refine wpQuiet_nil ?_
  intro w' hw'
  have HW := Lib.hid hw'
  have d0 := HW.out.cell c0
  have d1 := HW.out.cell c1
  clear hw' c0 c1
  by_cases hnm : n = m
  · have HE := Lib.hid (show x.length = y.length from by rw [HX.out.1, HY.out.1]; exact hnm)
    subst hnm
    go_wp2_with fail
    go_loopw [22] (fun i wr => ∃ k : Nat, k ≤ n ∧ i = .int .i64 k ∧ K.Grew w wr ∧ Hid (∀ j, j < k → Dn.rdnEq (Dn.at' x j) (Dn.at' y j) = true)) (fun i _ => n - (intOf i).toNat)
    case atStart => exact ⟨0, by omega, rfl, HW.out, Lib.hid fun j hj => by omega⟩
    case round =>
      obtain ⟨k, hk, rfl, hb, HN⟩ := hrel
      have HB := Lib.hid hb
      clear hb d0 d1
      by_cases hlt : k < n
      · obtain ⟨ab, ao, rfl, hcs⟩ := HX.out.2 (by omega)
        obtain ⟨ab2, ao2, rfl, hcs2⟩ := HY.out.2 (by omega)
        obtain ⟨v1, e1', hv1⟩ := hcs k hlt
        obtain ⟨v2, e2', hv2⟩ := hcs2 k hlt
        have c0 := HB.out.cell HC.out.1
        have c1 := HB.out.cell HC.out.2
        have e1 := HB.out.cell e1'
        have e2 := HB.out.cell e2'
        have H1 := Lib.hid (hv1.grew HB.out)
        have H2 := Lib.hid (hv2.grew HB.out)
        have z1 := Lib.hid (HS.out.1 _ (at_mem (l := x) (k := k) (by rw [HX.out.1]; exact hlt)))
        have z2 := Lib.hid (HS.out.2 _ (at_mem (l := y) (k := k) (by rw [HY.out.1]; exact hlt)))
        have HNS := Lib.hid (fun h => AllTo.snoc (P := fun j => Dn.rdnEq (Dn.at' x j) (Dn.at' y j) = true) HN.out h)
        have HNO := Lib.hid (fun h : Dn.rdnEq (Dn.at' x k) (Dn.at' y k) = false => show Dn.eqDN x y = false from by
          unfold Dn.eqDN Dn.eqBy
          rw [Dn.allB_false (i := k) (by rw [HX.out.1]; exact hlt) h, Bool.and_false])
        clear hcs hcs2 e1' e2' hv1 hv2 HN
        obtain ⟨p1, hp1⟩ : ∃ b, v1 = .pointer (some ⟨b, 0, none⟩) := by obtain ⟨b, _, _, _, e, _⟩ := H1.out; exact ⟨b, e⟩
        obtain ⟨p2, hp2⟩ : ∃ b, v2 = .pointer (some ⟨b, 0, none⟩) := by obtain ⟨b, _, _, _, e, _⟩ := H2.out; exact ⟨b, e⟩
        subst hp1 hp2
        have b0 : (0 : Int) ≤ (k : Int) := by omega
        have b1 : (k : Int) < (n : Int) := by omega
        generalize Dn.at' x k = xk at *
        generalize Dn.at' y k = yk at *
        cases hq : Dn.rdnEq xk yk with
        | false =>
          have HQ := Lib.hid hq
          clear hq
          have h41 : ∀ w', K.Grew wr w' → Calls Tryd.prog 41 #[.pointer (some ⟨p1, 0, none⟩), .pointer (some ⟨p2, 0, none⟩)] w' (BoolIs false w') := fun w' hw' => by
            have := rdnEqual_any _ _ xk yk w' (H1.out.grew hw') (H2.out.grew hw') z1.out z2.out
            rwa [HQ.out] at this
          go_wp2_with fail
          refine K.wp_region_grew (by kernel_rfl) (by kernel_rfl) ?_
          repeat (first
            | go_big_quiet_skip
            | (go_big_quiet_want; go_big_quiet_op; go_big_quiet_on)
            | (go_big_quiet_want; go_big_quiet_op; refine ⟨_, fun _ _ => rfl, ?_⟩; go_big_quiet_on)
            | (go_big_quiet_want; refine K.quiet_cell (v := ?_) ?_ _ _ rfl rfl ?_ ?_
               rotate_left
               · assumption
               · (intro w hw; go_simp)
               simp only [Act.put, List.setIfInBounds_toArray, List.set_cons_zero, List.set_cons_succ]
               go_big_quiet_on)
            | (go_big_quiet_want; refine K.quiet_load _ _ rfl _ rfl ?_ ?_ ?_
               rotate_left
               · assumption
               simp only [Act.put, List.setIfInBounds_toArray, List.set_cons_zero, List.set_cons_succ]
               go_big_quiet_on)
            | (go_big_quiet_want; go_big_quiet_op; apply Exists.intro
               refine ⟨fun w hw => ?_, ?_⟩
               · first | with_reducible exact quiet_of_bool hw (h41 _ hw)
               go_big_quiet_on))
          refine wpQuiet_nil ?_
          intro w' hw'
          have HG := Lib.hid hw'
          clear hw'
          go_wp2_with fail
          go_ret
          exact ⟨ret_bool (by rw [HF.out, HNO.out HQ.out]), HB.out.then HG.out⟩
        | true =>
          have HQ := Lib.hid hq
          clear hq
          have h41 : ∀ w', K.Grew wr w' → Calls Tryd.prog 41 #[.pointer (some ⟨p1, 0, none⟩), .pointer (some ⟨p2, 0, none⟩)] w' (BoolIs true w') := fun w' hw' => by
            have := rdnEqual_any _ _ xk yk w' (H1.out.grew hw') (H2.out.grew hw') z1.out z2.out
            rwa [HQ.out] at this
          go_wp2_with fail
          refine K.wp_region_grew (by kernel_rfl) (by kernel_rfl) ?_
          repeat (first
            | go_big_quiet_skip
            | (go_big_quiet_want; go_big_quiet_op; go_big_quiet_on)
            | (go_big_quiet_want; go_big_quiet_op; refine ⟨_, fun _ _ => rfl, ?_⟩; go_big_quiet_on)
            | (go_big_quiet_want; refine K.quiet_cell (v := ?_) ?_ _ _ rfl rfl ?_ ?_
               rotate_left
               · assumption
               · (intro w hw; go_simp)
               simp only [Act.put, List.setIfInBounds_toArray, List.set_cons_zero, List.set_cons_succ]
               go_big_quiet_on)
            | (go_big_quiet_want; refine K.quiet_load _ _ rfl _ rfl ?_ ?_ ?_
               rotate_left
               · assumption
               simp only [Act.put, List.setIfInBounds_toArray, List.set_cons_zero, List.set_cons_succ]
               go_big_quiet_on)
            | (go_big_quiet_want; go_big_quiet_op; apply Exists.intro
               refine ⟨fun w hw => ?_, ?_⟩
               · first | with_reducible exact quiet_of_bool hw (h41 _ hw)
               go_big_quiet_on))
          refine wpQuiet_nil ?_
          intro w' hw'
          have HG := Lib.hid hw'
          clear hw'
          go_wp2_with fail
          go_roundw
          case rel => exact ⟨k + 1, by omega, by go_num, HB.out.then HG.out, Lib.hid (HNS.out HQ.out)⟩
          case measure => simp [intOf]; omega
      · have hy : Dn.eqDN x y = true := by
          unfold Dn.eqDN Dn.eqBy
          rw [Bool.and_eq_true, decide_eq_true_eq, Dn.allB_iff]
          exact ⟨HE.out, fun j hj => HN.out j (by have := HX.out.1; omega)⟩
        have HYY := Lib.hid hy
        clear hy
        go_wp2_with fail
        go_ret
        exact ⟨ret_bool (by rw [HF.out, HYY.out]), HB.out⟩
  · have hy : Dn.eqDN x y = false := by
      unfold Dn.eqDN Dn.eqBy
      rw [HX.out.1, HY.out.1, decide_eq_false hnm]; rfl
    have HYY := Lib.hid hy
    clear hy
    have t1 : ((n : Int) == (m : Int)) = false := by simp; omega
    have t2 : ((n : Int) != (m : Int)) = true := by simp; omega
    go_wp2_with fail
    go_ret
    exact ⟨ret_bool (by rw [HF.out, HYY.out]), HW.out⟩
end Go.Proofs.YtnjjhklefamaoaaDoor
