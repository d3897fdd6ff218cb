/-
  The reference's DNOnce: where it says yes, no part stands twice.
-/
import Derived.Test.YtnjjhklefamaoaaDoorSpec
namespace Go.Proofs.YtnjjhklefamaoaaDoor
open Go.RowKit
open Dn (Attr Name)

set_option maxHeartbeats 4000000 in
set_option maxRecDepth 100000 in
theorem once_any (v : Value) (x : Name) (w : World) (hN : NamesV w v x) (hF : Few x) (hl : x.length ≤ 6) : Calls Tryd.prog 15 #[v] w (BoolIf (Dn.Apart x) w) := by
  have HV := Lib.hid hN
  obtain ⟨A, n, cap, rfl, hnc, hc, hA⟩ := hN
  have hn6 : n ≤ 6 := by rw [← hA.1]; exact hl
  have HA := Lib.hid hA
  have HF := Lib.hid hF
  have HL := Lib.hid hl
  unfold maxLen at hc
  clear hA hF hl
  obtain ⟨Q, hQ⟩ : ∃ Q, Q = Dn.Apart x := ⟨_, rfl⟩
  rw [← hQ]
  have HQ := Lib.hid hQ
  clear hQ
  go_enter Tryd.func15, Tryd.ntmps15
  go_wp2_with fail
  go_loopg [9, 3, 4, 6] (n + 1) (fun gk i _ _ _ wr => ∃ k : Nat, k ≤ n ∧ gk = n + 1 - k ∧ i = .int .i64 k ∧ K.Grew w wr ∧ Hid (∀ i, i < k → ∀ j, j < i → Dn.rdnSpec (Dn.at' x i) (Dn.at' x j) = false))
  case atStart => exact ⟨0, by omega, by omega, rfl, K.Grew.refl _, Lib.hid fun j hj => by omega⟩
  case round =>
    obtain ⟨k, hk, hg, rfl, hb, HN⟩ := hrel
    have HB := Lib.hid hb
    clear hb
    by_cases hlt : k < n
    · obtain ⟨ab, ao, rfl, hab, hcs⟩ := HA.out.2 (by omega)
      have HCS := Lib.hid hcs
      obtain ⟨v1, c1', hv1⟩ := hcs k hlt
      have c1 := HB.out.cell c1'
      obtain ⟨B1, n1, k1, rfl, _, _, ha1, _⟩ := hv1
      have HA1 := Lib.hid ha1
      have hs1 := HF.out _ (at_mem (l := x) (k := k) (by rw [HA.out.1]; exact hlt))
      have hn1 : n1 ≤ 4 := by rw [← HA1.out.1]; exact hs1.2.1
      have HS1 := Lib.hid hs1.2.2
      have HNS := Lib.hid (fun h => AllTo.snoc (P := fun i => ∀ j, j < i → Dn.rdnSpec (Dn.at' x i) (Dn.at' x j) = false) HN.out h)
      clear hcs c1' ha1 hs1 HN
      go_wp2_with fail
      obtain ⟨wo, hwo⟩ : ∃ wo : World, wo = wr := ⟨_, rfl⟩
      subst hwo
      go_loopg [18, 6] (k + 1) (fun g2 i2 _ wi => ∃ q : Nat, q ≤ k ∧ g2 = k + 1 - q ∧ i2 = .int .i64 q ∧ K.Grew w wi ∧ Hid (∀ j, j < q → Dn.rdnSpec (Dn.at' x k) (Dn.at' x j) = false))
      case atStart => exact ⟨0, by omega, by omega, rfl, HB.out, Lib.hid fun j hj => by omega⟩
      case round =>
        obtain ⟨q, hq, hg2, rfl, hb2, HM⟩ := hrel
        have HB2 := Lib.hid hb2
        clear hb2
        by_cases hqk : q < k
        · obtain ⟨v2, c2', hv2⟩ := HCS.out q (by omega)
          have c2 := HB2.out.cell c2'
          obtain ⟨B2, n2, k2, rfl, _, _, ha2, _⟩ := hv2
          have hs2 := HF.out _ (at_mem (l := x) (k := q) (by rw [HA.out.1]; omega))
          have hn2 : n2 ≤ 4 := by rw [← ha2.1]; exact hs2.2.1
          have H27 := Lib.hid (rdnSpec_any B1 B2 n1 n2 k1 k2 _ _ _ (HA1.out.below HB2.out) (ha2.below HB2.out) (by omega) (by omega) HS1.out hs2.2.2)
          clear c2' ha2 hs2
          cases hr : Dn.rdnSpec (Dn.at' x k) (Dn.at' x q) with
          | true =>
            have HR := Lib.hid hr
            clear hr
            go_wp2_with fail
            refine H27.out.mono ?_
            rintro e w2 ⟨rfl, hb3⟩
            rw [HR.out]
            have HB3 := Lib.hid (HB2.out.then hb3)
            clear hb3
            go_wp2_with fail
            go_ret
            exact BoolIf.mk _ HB3.out fun h => by cases h
          | false =>
            have HR := Lib.hid hr
            clear hr
            go_wp2_with fail
            refine H27.out.mono ?_
            rintro e w2 ⟨rfl, hb3⟩
            rw [HR.out]
            have HB3 := Lib.hid (HB2.out.then hb3)
            clear hb3
            go_wp2_with fail
            go_roundg (k - q)
            case measure => omega
            case rel => exact ⟨q + 1, by omega, by omega, by go_num, HB3.out, Lib.hid (NoneTo.snoc HM.out HR.out)⟩
        · have HH := Lib.hid (HNS.out fun j hj => HM.out j (by omega))
          go_wp2_with fail
          go_roundg (n - k)
          case measure => omega
          case rel => exact ⟨k + 1, by omega, by omega, by go_num, HB2.out, HH⟩
    · go_wp2_with fail
      refine (setKnown_any _ x _ (HV.out.below HB.out) HF.out HL.out).mono ?_
      rintro e w2 ⟨b, rfl, hb2, hon⟩
      have HO := Lib.hid hon
      have HB2 := Lib.hid (HB.out.then hb2)
      clear hb2 hon
      go_wp2_with fail
      go_ret
      refine BoolIf.mk _ HB2.out fun h => ?_
      rw [HQ.out]
      exact ⟨HO.out h, fun i j hi hj => HN.out i (by have := HA.out.1; omega) j hj⟩
end Go.Proofs.YtnjjhklefamaoaaDoor
