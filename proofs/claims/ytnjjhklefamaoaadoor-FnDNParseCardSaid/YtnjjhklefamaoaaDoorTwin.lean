/-
  The laws' sameNames: two names that are written alike.
-/
import Derived.Test.YtnjjhklefamaoaaDoorSpec
namespace Go.Proofs.YtnjjhklefamaoaaDoor
open Go.RowKit
open Dn (Attr Name)

set_option maxHeartbeats 8000000 in
set_option maxRecDepth 100000 in
theorem twin_any (v1 v2 : Value) (l : Name) (w : World) (ha : NamesV w v1 l) (hb : NamesV w v2 l) (hl : l.length ≤ 100000) (hF : ∀ x ∈ l, x.length ≤ 100000) : Calls Tryd.prog 9 #[v1, v2] w (BoolIs true w) := by
  obtain ⟨A, n, cap, rfl, _, _, hA⟩ := ha
  obtain ⟨A2, m, cap2, rfl, _, _, hB⟩ := hb
  obtain rfl : n = m := by rw [← hA.1, hB.1]
  have hn : n ≤ 100000 := by rw [← hA.1]; exact hl
  have HA := Lib.hid hA
  have HB := Lib.hid hB
  have HF := Lib.hid hF
  clear hA hB hF hl
  go_enter Tryd.func9, Tryd.ntmps9
  go_wp2_with fail
  go_loopg [5, 6] (n + 1) (fun gk i _ wr => ∃ k : Nat, k ≤ n ∧ gk = n + 1 - k ∧ i = .int .i64 k ∧ K.Grew w wr)
  case atStart => exact ⟨0, by omega, by omega, rfl, K.Grew.refl _⟩
  case round =>
    obtain ⟨k, hk, hg, rfl, hgr⟩ := hrel
    have HG := Lib.hid hgr
    clear hgr
    by_cases hlt : k < n
    · obtain ⟨b1, o1, rfl, _, hc1⟩ := HA.out.2 (by omega)
      obtain ⟨b2, o2, rfl, _, hc2⟩ := HB.out.2 (by omega)
      obtain ⟨x1, c1', hx1⟩ := hc1 k hlt
      obtain ⟨x2, c2', hx2⟩ := hc2 k hlt
      have c1 := HG.out.cell c1'
      have c2 := HG.out.cell c2'
      have C1 := Lib.hid c1'
      have C2 := Lib.hid c2'
      obtain ⟨B1, n1, k1, rfl, _, _, ha1, _⟩ := hx1
      obtain ⟨B2, n2, k2, rfl, _, _, ha2, _⟩ := hx2
      obtain rfl : n1 = n2 := by rw [← ha1.1, ha2.1]
      have hn1 : n1 ≤ 100000 := by rw [← ha1.1]; exact HF.out _ (at_mem (l := l) (k := k) (by rw [HA.out.1]; exact hlt))
      have HA1 := Lib.hid ha1
      have HA2 := Lib.hid ha2
      have b0 : (0 : Int) ≤ (k : Int) := by omega
      have b3 : (k : Int) < (n : Int) := by omega
      clear hc1 hc2 c1' c2' ha1 ha2
      go_wp2_with fail
      go_quiet (fail)
      go_wp2_with fail
      have HG2 := Lib.hid (HG.out.then (K.below_drewN (Below.refl _ _) nq))
      generalize wr.drewN nq = wz at HG2 ⊢
      clear c1 c2
      go_loopg [6] (n1 + 1) (fun g2 i2 wi => ∃ q : Nat, q ≤ n1 ∧ g2 = n1 + 1 - q ∧ i2 = .int .i64 q ∧ K.Grew w wi)
      case atStart => exact ⟨0, by omega, by omega, rfl, HG2.out⟩
      case round =>
        obtain ⟨q, hq, hg2, rfl, hgr⟩ := hrel
        have HGI := Lib.hid hgr
        have c1 := HGI.out.cell C1.out
        have c2 := HGI.out.cell C2.out
        clear hgr
        by_cases hqn : q < n1
        · obtain ⟨d1, p1, rfl, _, he1⟩ := HA1.out.2 (by omega)
          obtain ⟨d2, p2, rfl, _, he2⟩ := HA2.out.2 (by omega)
          have e1 := HGI.out.cell (he1 q hqn).1
          have e2 := HGI.out.cell (he1 q hqn).2
          have e3 := HGI.out.cell (he2 q hqn).1
          have e4 := HGI.out.cell (he2 q hqn).2
          have b4 : (0 : Int) ≤ (q : Int) := by omega
          have b5 : (q : Int) < (n1 : Int) := by omega
          clear he1 he2
          generalize atA (Dn.at' l k) q = a at *
          obtain ⟨s1, s2⟩ := a
          simp only at e1 e2 e3 e4
          go_wp2_with fail
          go_quiet (fail)
          go_wp2_with fail
          go_roundg (n1 - q)
          case measure => omega
          case rel => exact ⟨q + 1, by omega, by omega, by go_num, HGI.out.then (K.below_drewN (Below.refl _ _) _)⟩
        · go_wp2_with fail
          go_roundg (n - k)
          case measure => omega
          case rel => exact ⟨k + 1, by omega, by omega, by go_num, HGI.out⟩
    · go_wp2_with fail
      go_ret
      exact ⟨rfl, HG.out⟩
end Go.Proofs.YtnjjhklefamaoaaDoor
