/-
  awakeDN says yes.
-/
import Derived.Test.YtnjjhklefamaoaaDoorRead
import Derived.Test.YtnjjhklefamaoaaDoorWrap
namespace Go.Proofs.YtnjjhklefamaoaaDoor
open Go.RowKit
open Dn (Attr Name)

def txt : ByteArray := ⟨#[99, 110, 61, 97, 44, 100, 99, 61, 98]⟩
def nameAB : Name := [[(⟨#[99, 110]⟩, ⟨#[97]⟩)], [(⟨#[100, 99]⟩, ⟨#[98]⟩)]]
def endAB : Dn.St := ⟨false, 0, [98], ⟨#[100, 99]⟩, [], [[(⟨#[99, 110]⟩, ⟨#[97]⟩)]]⟩
theorem runsAB : Dn.Runs txt.data.toList 0 Dn.init txt.size endAB := by
  refine .cons (.plain 0 99 _ rfl rfl (by decide) (by decide) (by decide) (by decide) (by decide)) ?_
  refine .cons (.plain 1 110 _ rfl rfl (by decide) (by decide) (by decide) (by decide) (by decide)) ?_
  refine .cons (.eq 2 _ rfl rfl (by decide)) ?_
  refine .cons (.plain 3 97 _ rfl rfl (by decide) (by decide) (by decide) (by decide) (by decide)) ?_
  refine .cons (.comma 4 _ rfl rfl (by decide)) ?_
  refine .cons (.plain 5 100 _ rfl rfl (by decide) (by decide) (by decide) (by decide) (by decide)) ?_
  refine .cons (.plain 6 99 _ rfl rfl (by decide) (by decide) (by decide) (by decide) (by decide)) ?_
  refine .cons (.eq 7 _ rfl rfl (by decide)) ?_
  refine .cons (.plain 8 98 _ rfl rfl (by decide) (by decide) (by decide) (by decide) (by decide)) ?_
  exact .nil _ _
theorem finalAB : Dn.final endAB = nameAB := rfl

theorem eqDN_refl (l : Name) : Dn.eqDN l l = true := by
  simp only [Dn.eqDN, Dn.eqBy, Bool.and_eq_true, decide_eq_true_eq, Dn.allB_iff]
  exact ⟨trivial, fun i _ => Dn.rdnEq_refl _⟩
theorem NamesAt.take {w : World} {A : Option Addr} {m j : Nat} {l : Name} (h : NamesAt w A m l) (hj : j ≤ m) : NamesAt w A j (l.take j) := by
  refine ⟨by rw [List.length_take, h.1]; omega, fun h0 => ?_⟩
  obtain ⟨ab, ao, e, hlt, hc⟩ := h.2 (by omega)
  refine ⟨ab, ao, e, hlt, fun k hk => ?_⟩
  have : Dn.at' (l.take j) k = Dn.at' l k := by simp [Dn.at', List.getD, hk]
  rw [this]
  exact hc k (by omega)
theorem briefAB : Brief nameAB := ⟨by decide, fun x hx => by
  simp only [nameAB, List.mem_cons, List.not_mem_nil, or_false] at hx
  rcases hx with rfl | rfl
  · exact ⟨by decide, by decide, fun a ha => by simp only [List.mem_cons, List.not_mem_nil, or_false] at ha; subst ha; decide⟩
  · exact ⟨by decide, by decide, fun a ha => by simp only [List.mem_cons, List.not_mem_nil, or_false] at ha; subst ha; decide⟩⟩
theorem briefA : Brief (nameAB.take 1) := ⟨by decide, fun x hx => briefAB.2 x (List.mem_of_mem_take hx)⟩
theorem neAB : Dn.eqDN nameAB (nameAB.take 1) = false := by
  unfold Dn.eqDN Dn.eqBy
  rw [decide_eq_false (by decide)]; rfl

set_option maxHeartbeats 4000000 in
set_option maxRecDepth 100000 in
theorem awake_any (w : World) : Calls Tryd.prog 6 #[] w (BoolIs true w) := by
  have h8 := read_any txt endAB w (by decide) runsAB (Or.inr (by decide))
  rw [finalAB] at h8
  have H8 := Lib.hid h8
  clear h8
  go_enter Tryd.func6, Tryd.ntmps6
  go_wp2_with fail
  refine H8.out.mono ?_
  rintro e w1 ⟨v, rfl, hv, hb⟩
  have HV := Lib.hid hv
  have HB := Lib.hid hb
  obtain ⟨A, n, cap, rfl, hnc, hcm, hA⟩ := hv
  obtain rfl : n = 2 := hA.1.symm
  obtain ⟨ab, ao, rfl, hab, hc⟩ := hA.2 (by decide)
  obtain ⟨v0, c0, B0, n0, k0, rfl, _, _, a0, _⟩ := hc 0 (by decide)
  obtain ⟨v1, c1, B1, n1, k1, rfl, _, _, a1, _⟩ := hc 1 (by decide)
  obtain rfl : n0 = 1 := a0.1.symm
  obtain rfl : n1 = 1 := a1.1.symm
  obtain ⟨x0, y0, rfl, _, d0⟩ := a0.2 (by decide)
  obtain ⟨x1, y1, rfl, _, d1⟩ := a1.2 (by decide)
  have e0 := (d0 0 (by decide)).1
  have e1 := (d1 0 (by decide)).2
  simp only [Nat.add_zero, Nat.zero_mul] at c0 e0 e1
  have f0 : w1.cell? ⟨x0, y0, none⟩ = some (.string ⟨#[99, 110]⟩) := e0
  have f1 : w1.cell? ⟨x1, y1 + 1, none⟩ = some (.string ⟨#[98]⟩) := e1
  have hcap : (1 : Int) ≤ (cap : Int) := by omega
  unfold maxLen at hcm
  have HT := Lib.hid (show NamesV w1 (.slice (some ⟨ab, ao, none⟩) 1 cap) (nameAB.take 1) from ⟨_, 1, cap, rfl, by omega, by unfold maxLen; omega, hA.take (by decide)⟩)
  clear hb hA hc a0 a1 d0 d1 e0 e1
  go_wp2_with fail
  refine (equalDN_any _ _ nameAB nameAB _ HV.out HV.out briefAB briefAB).mono ?_
  rintro e w2 ⟨rfl, hb⟩
  rw [eqDN_refl]
  have HB2 := Lib.hid hb
  clear hb
  go_wp2_with fail
  refine (equalDN_any _ _ nameAB (nameAB.take 1) _ (HV.out.below HB2.out) (HT.out.below HB2.out) briefAB briefA).mono ?_
  rintro e w3 ⟨rfl, hb⟩
  rw [neAB]
  have HB3 := Lib.hid (HB.out.trans ((HB2.out.trans (hb.mono HB2.out.size)).mono HB.out.size))
  clear hb
  go_wp2_with fail
  go_ret
  exact ⟨rfl, HB3.out⟩
end Go.Proofs.YtnjjhklefamaoaaDoor
