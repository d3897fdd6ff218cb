/-
  The reference's EqualRDN, EqualDN, AncestorDN, DNOnce.
-/
import Derived.Test.YtnjjhklefamaoaaDoorFold
namespace Go.Proofs.YtnjjhklefamaoaaDoor
open Go.RowKit
open Dn (Attr Name)

theorem rdnSpec_no {a b : List Attr} {k : Nat} (h : k < a.length) (e : Dn.has b (atA a k) = false) : Dn.rdnSpec a b = false := by
  unfold Dn.rdnSpec
  cases h2 : Dn.hasAll b a with
  | false => simp
  | true => rw [Dn.hasAll, List.all_eq_true] at h2; rw [h2 _ (atA_mem h)] at e; cases e
theorem rdnSpec_yes {a b : List Attr} (hl : a.length = b.length) (e : ∀ k, k < a.length → Dn.has b (atA a k) = true) : Dn.rdnSpec a b = true := by
  unfold Dn.rdnSpec
  rw [hl, decide_eq_true rfl, Bool.true_and, Dn.hasAll, List.all_eq_true]
  intro x hx
  obtain ⟨k, hk, rfl⟩ := List.getElem_of_mem hx
  have := e k hk
  rwa [atA, List.getD, List.getElem?_eq_getElem hk] at this

set_option maxHeartbeats 4000000 in
set_option maxRecDepth 100000 in
theorem rdnSpec_any (A A2 : Option Addr) (n m cap cap2 : Nat) (a b : List Attr) (w : World) (ha : AttrsAt w A n a) (hb : AttrsAt w A2 m b) (hn : n ≤ 1000000) (hm : m ≤ 1000000) (hsa : Small a) (hsb : Small b) :
    Calls Tryd.prog 27 #[.slice A n cap, .slice A2 m cap2] w (BoolIs (Dn.rdnSpec a b) w) := by
  obtain ⟨F, hF⟩ : ∃ F, F = Dn.rdnSpec a b := ⟨_, rfl⟩
  rw [← hF]
  have HF := Lib.hid hF
  have HA := Lib.hid ha
  have HB := Lib.hid hb
  have HS := Lib.hid (And.intro hsa hsb)
  clear hF ha hb hsa hsb
  go_enter Tryd.func27, Tryd.ntmps27
  by_cases hnm : n = m
  · have HE := Lib.hid (show a.length = b.length from by rw [HA.out.1, HB.out.1]; exact hnm)
    subst hnm
    go_wp2_with fail
    go_loopw [14] (fun i wr => ∃ k : Nat, k ≤ n ∧ i = .int .i64 k ∧ K.Grew w wr ∧ Hid (∀ j, j < k → Dn.has b (atA a j) = true)) (fun i _ => n - (intOf i).toNat)
    case atStart => exact ⟨0, by omega, rfl, K.Grew.refl _, Lib.hid fun j hj => by omega⟩
    case round =>
      obtain ⟨k, hk, rfl, hg, HN⟩ := hrel
      have HG := Lib.hid hg
      clear hg
      by_cases hlt : k < n
      · obtain ⟨ab, ao, rfl, hab, hcs⟩ := HA.out.2 (by omega)
        have c0 := HG.out.cell (hcs k hlt).1
        have c1 := HG.out.cell (hcs k hlt).2
        have hz := (HS.out.1 _ (atA_mem (l := a) (k := k) (by rw [HA.out.1]; exact hlt))).1
        have HNS := Lib.hid (fun h => AllTo.snoc (P := fun j => Dn.has b (atA a j) = true) HN.out h)
        have HNO := Lib.hid (fun h => rdnSpec_no (a := a) (b := b) (k := k) (by rw [HA.out.1]; exact hlt) h)
        clear hcs HN
        generalize atA a k = x at *
        obtain ⟨p, q⟩ := x
        simp only at c0 c1 hz
        have hw : K.Grew wr (wr.alloc (.cells #[.string p, .string q] 32)) := (Below.refl _ wr).alloc (Nat.le_refl _) _
        have HW := Lib.hid hw
        clear hw
        go_wp2_with fail
        refine (dnHas_any A2 n cap2 b (p, q) _ (HB.out.grew2 (K.Grew.then HG.out HW.out) (K.Grew.refl _)) HS.out.2 hz hn).mono ?_
        rintro e w2 ⟨rfl, hb2⟩
        have HB2 := Lib.hid (HW.out.then hb2)
        clear hb2
        cases hq : Dn.has b (p, q) with
        | false =>
          have HQ := Lib.hid hq
          clear hq
          go_wp2_with fail
          go_ret
          exact ⟨ret_bool (by rw [HF.out, HNO.out HQ.out]), HG.out.then HB2.out⟩
        | true =>
          have HQ := Lib.hid hq
          clear hq
          go_wp2_with fail
          go_roundw
          case rel => exact ⟨k + 1, by omega, by go_num, HG.out.then HB2.out, Lib.hid (HNS.out HQ.out)⟩
          case measure => simp [intOf]; omega
      · have hy : Dn.rdnSpec a b = true := rdnSpec_yes HE.out fun j hj => HN.out j (by have := HA.out.1; omega)
        have HY := Lib.hid hy
        clear hy
        go_wp2_with fail
        go_ret
        exact ⟨ret_bool (by rw [HF.out, HY.out]), HG.out⟩
  · have hy : Dn.rdnSpec a b = false := by
      unfold Dn.rdnSpec
      rw [HA.out.1, HB.out.1, decide_eq_false hnm]; rfl
    have HY := Lib.hid hy
    clear hy
    have t1 : ((n : Int) == (m : Int)) = false := by simp; omega
    have t2 : ((n : Int) != (m : Int)) = true := by simp; omega
    go_wp2_with fail
    go_ret
    exact ⟨ret_bool (by rw [HF.out, HY.out]), Below.refl _ _⟩

theorem eqBy_no {f : List Attr → List Attr → Bool} {x y : Name} {k : Nat} (h : k < x.length) (e : f (Dn.at' x k) (Dn.at' y k) = false) : Dn.eqBy f x y = false := by
  unfold Dn.eqBy
  rw [Dn.allB_false h e, Bool.and_false]

set_option maxHeartbeats 4000000 in
set_option maxRecDepth 100000 in
theorem eqSpec_any (A A2 : Option Addr) (n m cap cap2 : Nat) (x y : Name) (w : World) (hx : NamesAt w A n x) (hy : NamesAt w A2 m y) (hn : n ≤ 1000000) (hm : m ≤ 1000000) (hsx : Few x) (hsy : Few y) :
    Calls Tryd.prog 25 #[.slice A n cap, .slice A2 m cap2] w (BoolIs (Dn.eqBy Dn.rdnSpec x y) w) := by
  obtain ⟨F, hF⟩ : ∃ F, F = Dn.eqBy Dn.rdnSpec x y := ⟨_, rfl⟩
  rw [← hF]
  have HF := Lib.hid hF
  have HX := Lib.hid hx
  have HY := Lib.hid hy
  have HS := Lib.hid (And.intro hsx hsy)
  clear hF hx hy hsx hsy
  go_enter Tryd.func25, Tryd.ntmps25
  by_cases hnm : n = m
  · have HE := Lib.hid (show x.length = y.length from by rw [HX.out.1, HY.out.1]; exact hnm)
    subst hnm
    go_wp2_with fail
    go_loopw [13] (fun i wr => ∃ k : Nat, k ≤ n ∧ i = .int .i64 k ∧ K.Grew w wr ∧ Hid (∀ j, j < k → Dn.rdnSpec (Dn.at' x j) (Dn.at' y j) = true)) (fun i _ => n - (intOf i).toNat)
    case atStart => exact ⟨0, by omega, rfl, K.Grew.refl _, Lib.hid fun j hj => by omega⟩
    case round =>
      obtain ⟨k, hk, rfl, hg, HN⟩ := hrel
      have HG := Lib.hid hg
      clear hg
      by_cases hlt : k < n
      · obtain ⟨ab, ao, rfl, hab, hcs⟩ := HX.out.2 (by omega)
        obtain ⟨ab2, ao2, rfl, hab2, hcs2⟩ := HY.out.2 (by omega)
        obtain ⟨v1, e1', hv1⟩ := hcs k hlt
        obtain ⟨v2, e2', hv2⟩ := hcs2 k hlt
        have e1 := HG.out.cell e1'
        have e2 := HG.out.cell e2'
        obtain ⟨B1, n1, k1, rfl, _, _, ha1, _⟩ := hv1.below HG.out
        obtain ⟨B2, n2, k2, rfl, _, _, ha2, _⟩ := hv2.below HG.out
        have s1 := HS.out.1 _ (at_mem (l := x) (k := k) (by rw [HX.out.1]; exact hlt))
        have s2 := HS.out.2 _ (at_mem (l := y) (k := k) (by rw [HY.out.1]; exact hlt))
        have g1 : n1 ≤ 1000000 := by have := ha1.1; have := s1.2.1; omega
        have g2 : n2 ≤ 1000000 := by have := ha2.1; have := s2.2.1; omega
        have h27 := fun w' (hw' : K.Grew wr w') => rdnSpec_any B1 B2 n1 n2 k1 k2 _ _ w' (ha1.grew2 (Below.refl _ _) hw') (ha2.grew2 (Below.refl _ _) hw') g1 g2 s1.2.2 s2.2.2
        have H27 := Lib.hid h27
        have HNS := Lib.hid (fun h => AllTo.snoc (P := fun j => Dn.rdnSpec (Dn.at' x j) (Dn.at' y j) = true) HN.out h)
        have HNO := Lib.hid (fun h => eqBy_no (f := Dn.rdnSpec) (x := x) (y := y) (k := k) (by rw [HX.out.1]; exact hlt) h)
        have b0 : (0 : Int) ≤ (k : Int) := by omega
        have b1 : (k : Int) < (n : Int) := by omega
        clear hcs hcs2 e1' e2' hv1 hv2 HN ha1 ha2 s1 s2 h27
        generalize Dn.rdnSpec (Dn.at' x k) (Dn.at' y k) = F1 at *
        cases F1 with
        | false =>
          go_wp2_with fail
          refine K.wp_region_grew (by kernel_rfl) (by kernel_rfl) ?_
          repeat (first
            | go_big_quiet_skip
            | (go_big_quiet_want; go_big_quiet_op; go_big_quiet_on)
            | (go_big_quiet_want; go_big_quiet_op; refine ⟨_, fun _ _ => rfl, ?_⟩; go_big_quiet_on)
            | (go_big_quiet_want; refine K.quiet_cell (v := ?_) ?_ _ _ rfl rfl ?_ ?_
               rotate_left
               · assumption
               · (intro w hw; go_simp)
               simp only [Act.put, List.setIfInBounds_toArray, List.set_cons_zero, List.set_cons_succ]
               go_big_quiet_on)
            | (go_big_quiet_want; refine K.quiet_load _ _ rfl _ rfl ?_ ?_ ?_
               rotate_left
               · assumption
               simp only [Act.put, List.setIfInBounds_toArray, List.set_cons_zero, List.set_cons_succ]
               go_big_quiet_on)
            | (go_big_quiet_want; go_big_quiet_op; apply Exists.intro
               refine ⟨fun w hw => ?_, ?_⟩
               · first | with_reducible exact quiet_of_bool hw (H27.out _ hw)
               go_big_quiet_on))
          refine wpQuiet_nil ?_
          intro w' hw'
          have HW := Lib.hid hw'
          clear hw'
          go_wp2_with fail
          go_ret
          exact ⟨ret_bool (by rw [HF.out, HNO.out (by trivial)]), HG.out.then HW.out⟩
        | true =>
          go_wp2_with fail
          refine K.wp_region_grew (by kernel_rfl) (by kernel_rfl) ?_
          repeat (first
            | go_big_quiet_skip
            | (go_big_quiet_want; go_big_quiet_op; go_big_quiet_on)
            | (go_big_quiet_want; go_big_quiet_op; refine ⟨_, fun _ _ => rfl, ?_⟩; go_big_quiet_on)
            | (go_big_quiet_want; refine K.quiet_cell (v := ?_) ?_ _ _ rfl rfl ?_ ?_
               rotate_left
               · assumption
               · (intro w hw; go_simp)
               simp only [Act.put, List.setIfInBounds_toArray, List.set_cons_zero, List.set_cons_succ]
               go_big_quiet_on)
            | (go_big_quiet_want; refine K.quiet_load _ _ rfl _ rfl ?_ ?_ ?_
               rotate_left
               · assumption
               simp only [Act.put, List.setIfInBounds_toArray, List.set_cons_zero, List.set_cons_succ]
               go_big_quiet_on)
            | (go_big_quiet_want; go_big_quiet_op; apply Exists.intro
               refine ⟨fun w hw => ?_, ?_⟩
               · first | with_reducible exact quiet_of_bool hw (H27.out _ hw)
               go_big_quiet_on))
          refine wpQuiet_nil ?_
          intro w' hw'
          have HW := Lib.hid hw'
          clear hw'
          go_wp2_with fail
          go_roundw
          case rel => exact ⟨k + 1, by omega, by go_num, HG.out.then HW.out, Lib.hid (HNS.out (by trivial))⟩
          case measure => simp [intOf]; omega
      · have hy : Dn.eqBy Dn.rdnSpec x y = true := by
          unfold Dn.eqBy
          rw [Bool.and_eq_true, decide_eq_true_eq, Dn.allB_iff]
          exact ⟨HE.out, fun j hj => HN.out j (by have := HX.out.1; omega)⟩
        have HYY := Lib.hid hy
        clear hy
        go_wp2_with fail
        go_ret
        exact ⟨ret_bool (by rw [HF.out, HYY.out]), HG.out⟩
  · have hy : Dn.eqBy Dn.rdnSpec x y = false := by
      unfold Dn.eqBy
      rw [HX.out.1, HY.out.1, decide_eq_false hnm]; rfl
    have HYY := Lib.hid hy
    clear hy
    have t1 : ((n : Int) == (m : Int)) = false := by simp; omega
    have t2 : ((n : Int) != (m : Int)) = true := by simp; omega
    go_wp2_with fail
    go_ret
    exact ⟨ret_bool (by rw [HF.out, HYY.out]), Below.refl _ _⟩

theorem at_drop (l : Name) (j k : Nat) : Dn.at' (l.drop j) k = Dn.at' l (j + k) := by
  simp [Dn.at', List.getD]
theorem NamesAt.drop {w : World} {ab ao m j : Nat} {l : Name} (h : NamesAt w (some ⟨ab, ao, none⟩) m l) (hj : j ≤ m) : NamesAt w (some ⟨ab, ao + j, none⟩) (m - j) (l.drop j) := by
  refine ⟨by rw [List.length_drop, h.1], fun h0 => ?_⟩
  obtain ⟨a, o, e, hlt, hc⟩ := h.2 (by omega)
  simp only [Option.some.injEq, Addr.mk.injEq, and_true] at e
  obtain ⟨rfl, rfl⟩ := e
  refine ⟨ab, ao + j, rfl, hlt, fun k hk => ?_⟩
  rw [Nat.add_assoc, at_drop]
  exact hc (j + k) (by omega)
theorem NamesAt.none {w : World} (A : Option Addr) : NamesAt w A 0 [] := ⟨rfl, fun h => by omega⟩

set_option maxHeartbeats 4000000 in
set_option maxRecDepth 100000 in
theorem ancSpec_any (A A2 : Option Addr) (n m cap cap2 : Nat) (x y : Name) (w : World) (hx : NamesAt w A n x) (hy : NamesAt w A2 m y) (hn : n ≤ 1000000) (hm : m ≤ 1000000) (hmc : m ≤ cap2) (hsx : Few x) (hsy : Few y) :
    Calls Tryd.prog 13 #[.slice A n cap, .slice A2 m cap2] w (BoolIs (Dn.ancBy Dn.rdnSpec x y) w) := by
  obtain ⟨F, hF⟩ : ∃ F, F = Dn.ancBy Dn.rdnSpec x y := ⟨_, rfl⟩
  rw [← hF]
  have HF := Lib.hid hF
  have HX := Lib.hid hx
  have HY := Lib.hid hy
  have HS := Lib.hid (And.intro hsx hsy)
  clear hF hx hy hsx hsy
  go_enter Tryd.func13, Tryd.ntmps13
  by_cases hnm : n < m
  · have hy : Dn.ancBy Dn.rdnSpec x y = Dn.eqBy Dn.rdnSpec x (y.drop (m - n)) := by
      unfold Dn.ancBy Dn.eqBy
      rw [List.length_drop, HX.out.1, HY.out.1, decide_eq_true hnm, decide_eq_true (by omega)]
      simp only [Bool.true_and, at_drop]
    have HYY := Lib.hid hy
    have hsd : Few (y.drop (m - n)) := fun z hz => HS.out.2 z (List.mem_of_mem_drop hz)
    have HSD := Lib.hid hsd
    clear hy hsd
    obtain ⟨ab2, ao2, rfl, hab2, hcs2⟩ := HY.out.2 (by omega)
    have q0 : (0 : Int) ≤ (m : Int) - (n : Int) := by omega
    have q4 : ((m : Int) - (n : Int)).toNat = m - n := by omega
    clear hcs2
    by_cases hn0 : m - n < cap2
    · go_wp2_with fail
      have hd := HY.out.drop (show m - n ≤ m by omega)
      refine (eqSpec_any A (some ⟨ab2, ao2 + (m - n), none⟩) n (m - (m - n)) cap (cap2 - (m - n)) x (y.drop (m - n)) _ HX.out hd hn (by omega) HS.out.1 HSD.out).mono ?_
      rintro e w2 ⟨rfl, hb⟩
      have HB := Lib.hid hb
      clear hb
      go_wp2_with fail
      go_ret
      exact ⟨ret_bool (by rw [HF.out, HYY.out]), HB.out⟩
    · obtain rfl : n = 0 := by omega
      have hy0 : y.drop (m - 0) = [] := List.drop_eq_nil_of_le (by have := HY.out.1; omega)
      have HY0 := Lib.hid hy0
      clear hy0 q0 q4
      go_wp2_with fail
      refine (eqSpec_any A _ 0 _ cap _ x [] _ HX.out ⟨?_, ?_⟩ (by omega) ?_ HS.out.1 (fun z hz => by cases hz)).mono ?_
      · simp
      · intro h0; omega
      · omega
      rintro e w2 ⟨rfl, hb⟩
      have HB := Lib.hid hb
      clear hb
      go_wp2_with fail
      go_ret
      exact ⟨ret_bool (by rw [HF.out, HYY.out, HY0.out]), HB.out⟩
  · have hy : Dn.ancBy Dn.rdnSpec x y = false := by
      unfold Dn.ancBy
      rw [HX.out.1, HY.out.1, decide_eq_false hnm]; rfl
    have HYY := Lib.hid hy
    clear hy
    go_wp2_with fail
    go_ret
    exact ⟨ret_bool (by rw [HF.out, HYY.out]), Below.refl _ _⟩
end Go.Proofs.YtnjjhklefamaoaaDoor
