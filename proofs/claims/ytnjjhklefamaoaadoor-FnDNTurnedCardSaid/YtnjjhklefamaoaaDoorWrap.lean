/-
  impl.EqualDN, impl.AncestorDN, impl.MatchDN.
-/
import Derived.Test.YtnjjhklefamaoaaDoorGiven
import Derived.Test.YtnjjhklefamaoaaDoorAnc
import Derived.Test.YtnjjhklefamaoaaDoorMatch
namespace Go.Proofs.YtnjjhklefamaoaaDoor
open Go.RowKit
open Dn (Attr Name)

/-- few parts, short attributes -/
def Brief (l : Name) : Prop := l.length ≤ 6 ∧ Few l
theorem Brief.short {l : Name} (h : Brief l) : ShortN l := fun x hx a ha => by have := ((h.2 x hx).2.2 a ha).1; omega

set_option maxHeartbeats 2000000 in
set_option maxRecDepth 100000 in
theorem equalDN_any (u v : Value) (x y : Name) (w : World) (hx : NamesV w u x) (hy : NamesV w v y) (bx : Brief x) (by' : Brief y) : Calls Tryd.prog 14 #[u, v] w (BoolIs (Dn.eqDN x y) w) := by
  have HX := Lib.hid hx
  have HY := Lib.hid hy
  have HB := Lib.hid (And.intro bx by')
  obtain ⟨A, n, cap, rfl, _⟩ := hx
  obtain ⟨A2, m, cap2, rfl, _⟩ := hy
  go_enter Tryd.func14, Tryd.ntmps14
  go_wp2_with fail
  refine (given_any _ x _ HX.out HB.out.1.1 HB.out.1.2).mono ?_
  rintro e w2 ⟨p, rfl, hp, hb⟩
  have HP := Lib.hid hp
  have HB2 := Lib.hid hb
  obtain ⟨pb, hpb⟩ : ∃ b, p = .pointer (some ⟨b, 0, none⟩) := by obtain ⟨b, _, _, _, e, _⟩ := HP.out; exact ⟨b, e⟩
  subst hpb
  clear hp hb
  go_wp2_with fail
  refine (given_any _ y _ (HY.out.below HB2.out) HB.out.2.1 HB.out.2.2).mono ?_
  rintro e w3 ⟨q, rfl, hq, hb⟩
  have HQ := Lib.hid hq
  have HP3 := Lib.hid (HP.out.grew hb)
  have HB3 := Lib.hid (HB2.out.trans (hb.mono HB2.out.size))
  obtain ⟨qb, hqb⟩ : ∃ b, q = .pointer (some ⟨b, 0, none⟩) := by obtain ⟨b, _, _, _, e, _⟩ := HQ.out; exact ⟨b, e⟩
  subst hqb
  clear hq hb
  go_wp2_with fail
  refine (dnEqual_any _ _ x y _ HP3.out HQ.out HB.out.1.short HB.out.2.short).mono ?_
  rintro e w4 ⟨rfl, hb⟩
  have HB4 := Lib.hid (HB3.out.trans (hb.mono HB3.out.size))
  clear hb
  go_wp2_with fail
  go_ret
  exact ⟨rfl, HB4.out⟩

set_option maxHeartbeats 2000000 in
set_option maxRecDepth 100000 in
theorem ancestorDN_any (u v : Value) (x y : Name) (w : World) (hx : NamesV w u x) (hy : NamesV w v y) (bx : Brief x) (by' : Brief y) : Calls Tryd.prog 12 #[u, v] w (BoolIs (Dn.anc x y) w) := by
  have HX := Lib.hid hx
  have HY := Lib.hid hy
  have HB := Lib.hid (And.intro bx by')
  obtain ⟨A, n, cap, rfl, _⟩ := hx
  obtain ⟨A2, m, cap2, rfl, _⟩ := hy
  go_enter Tryd.func12, Tryd.ntmps12
  go_wp2_with fail
  refine (given_any _ x _ HX.out HB.out.1.1 HB.out.1.2).mono ?_
  rintro e w2 ⟨p, rfl, hp, hb⟩
  have HP := Lib.hid hp
  have HB2 := Lib.hid hb
  obtain ⟨pb, hpb⟩ : ∃ b, p = .pointer (some ⟨b, 0, none⟩) := by obtain ⟨b, _, _, _, e, _⟩ := HP.out; exact ⟨b, e⟩
  subst hpb
  clear hp hb
  go_wp2_with fail
  refine (given_any _ y _ (HY.out.below HB2.out) HB.out.2.1 HB.out.2.2).mono ?_
  rintro e w3 ⟨q, rfl, hq, hb⟩
  have HQ := Lib.hid hq
  have HP3 := Lib.hid (HP.out.grew hb)
  have HB3 := Lib.hid (HB2.out.trans (hb.mono HB2.out.size))
  obtain ⟨qb, hqb⟩ : ∃ b, q = .pointer (some ⟨b, 0, none⟩) := by obtain ⟨b, _, _, _, e, _⟩ := HQ.out; exact ⟨b, e⟩
  subst hqb
  clear hq hb
  go_wp2_with fail
  refine (ancestor_any _ _ x y _ HP3.out HQ.out HB.out.1.short HB.out.2.short).mono ?_
  rintro e w4 ⟨rfl, hb⟩
  have HB4 := Lib.hid (HB3.out.trans (hb.mono HB3.out.size))
  clear hb
  go_wp2_with fail
  go_ret
  exact ⟨rfl, HB4.out⟩

set_option maxHeartbeats 2000000 in
set_option maxRecDepth 100000 in
theorem matchDN_any (u v : Value) (x y : Name) (w : World) (hx : NamesV w u x) (hy : NamesV w v y) (bx : Brief x) (by' : Brief y) (hlen : x.length = y.length)
    (hone : Hid (∀ i j, i < x.length → j < x.length → Dn.rdnEq (Dn.at' x i) (Dn.at' y j) = decide (i = j))) : Calls Tryd.prog 16 #[u, v] w (BoolIs true w) := by
  have HX := Lib.hid hx
  have HY := Lib.hid hy
  have HB := Lib.hid (And.intro bx by')
  obtain ⟨A, n, cap, rfl, _⟩ := hx
  obtain ⟨A2, m, cap2, rfl, _⟩ := hy
  go_enter Tryd.func16, Tryd.ntmps16
  go_wp2_with fail
  refine (given_any _ x _ HX.out HB.out.1.1 HB.out.1.2).mono ?_
  rintro e w2 ⟨p, rfl, hp, hb⟩
  have HP := Lib.hid hp
  have HB2 := Lib.hid hb
  obtain ⟨pb, hpb⟩ : ∃ b, p = .pointer (some ⟨b, 0, none⟩) := by obtain ⟨b, _, _, _, e, _⟩ := HP.out; exact ⟨b, e⟩
  subst hpb
  clear hp hb
  go_wp2_with fail
  refine (given_any _ y _ (HY.out.below HB2.out) HB.out.2.1 HB.out.2.2).mono ?_
  rintro e w3 ⟨q, rfl, hq, hb⟩
  have HQ := Lib.hid hq
  have HP3 := Lib.hid (HP.out.grew hb)
  have HB3 := Lib.hid (HB2.out.trans (hb.mono HB2.out.size))
  obtain ⟨qb, hqb⟩ : ∃ b, q = .pointer (some ⟨b, 0, none⟩) := by obtain ⟨b, _, _, _, e, _⟩ := HQ.out; exact ⟨b, e⟩
  subst hqb
  clear hq hb
  go_wp2_with fail
  refine (match_any _ _ x y _ HP3.out HQ.out HB.out.1.short HB.out.2.short hlen hone.out).mono ?_
  rintro e w4 ⟨rfl, hb⟩
  have HB4 := Lib.hid (HB3.out.trans (hb.mono HB3.out.size))
  clear hb
  go_wp2_with fail
  go_ret
  exact ⟨rfl, HB4.out⟩
end Go.Proofs.YtnjjhklefamaoaaDoor
