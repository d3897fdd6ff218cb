/-
  The sizes' looks (zzFits5, zzFits4, zzFits3): each answers some bool, and leaves what was there.
-/
import Derived.Test.YtnjjhklefamaoaaDoorProg
import Derived.Test.YtnjjhklefamaoaaDoorMem
namespace Go.Proofs.YtnjjhklefamaoaaDoor
open Go.RowKit
open Dn (Attr Name)

/-- some bool; what was there is as it was; where it is true, P -/
def BoolIf (P : Prop) (w : World) (e : Ending) (w' : World) : Prop := ∃ b : Bool, e = .returned (.bool b) ∧ Below w.heap.size w w' ∧ (b = true → P)
theorem BoolIf.mk {P : Prop} {w w' : World} (b : Bool) (hb : Below w.heap.size w w') (h : b = true → P) : BoolIf P w (.returned (.bool b)) w' := ⟨b, rfl, hb, h⟩

set_option maxRecDepth 100000 in
theorem zzFits5_any (s t : ByteArray) (w : World) (_hs : s.size ≤ maxLen) (_ht : t.size ≤ maxLen) : Calls Tryd.prog 38 #[.agg #[.string s, .string t]] w (BoolIf True w) := by
  have hb : Below w.heap.size w (w.alloc (.cells #[.string s, .string t] 32)) := (Below.refl _ w).alloc (Nat.le_refl _) _
  have HB := Lib.hid hb
  clear hb
  go_enter Tryd.func38, Tryd.ntmps38
  go_wp2_with fail
  all_goals
    go_ret
    exact BoolIf.mk _ HB.out fun _ => trivial

set_option maxRecDepth 100000 in
theorem zzFits4_any (A : Option Addr) (n cap : Nat) (l : List Attr) (w : World) (hA : AttrsAt w A n l) (hF : Fit l) (hc : n ≤ maxLen) : Calls Tryd.prog 20 #[.slice A n cap] w (BoolIf True w) := by
  unfold maxLen at hc
  have HA := Lib.hid hA
  have HF := Lib.hid hF
  clear hA hF
  go_enter Tryd.func20, Tryd.ntmps20
  by_cases hbig : n ≤ 2147483647
  · go_wp2_with fail
    go_loopw [10] (fun i wr => ∃ k : Nat, k ≤ n ∧ i = .int .i64 k ∧ Below w.heap.size w wr) (fun i _ => n - (intOf i).toNat)
    case atStart => exact ⟨0, by omega, rfl, Below.refl _ _⟩
    case round =>
      obtain ⟨k, hk, rfl, hb⟩ := hrel
      have HB := Lib.hid hb
      clear hb
      by_cases hlt : k < n
      · obtain ⟨ab, ao, rfl, hab, hcs⟩ := HA.out.2 (by omega)
        have c0 := (HB.out.cell (p := ⟨ab, _, none⟩) hab).trans (hcs k hlt).1
        have c1 := (HB.out.cell (p := ⟨ab, _, none⟩) hab).trans (hcs k hlt).2
        have hm : atA l k ∈ l := by
          have := HA.out.1
          unfold atA
          rw [List.getD, List.getElem?_eq_getElem (by omega)]
          exact List.getElem_mem _
        have HZ := Lib.hid (HF.out _ hm)
        clear hm hcs
        generalize atA l k = a at c0 c1 HZ
        obtain ⟨s, t⟩ := a
        simp only at c0 c1 HZ
        go_wp2_with fail
        refine (zzFits5_any s t _ HZ.out.1 HZ.out.2).mono ?_
        rintro e w2 ⟨b, rfl, hb2, -⟩
        have hb3 : Below w.heap.size w w2 := (HB.out.alloc HB.out.size _).trans (hb2.mono (by have := HB.out.size; simp; omega))
        have HB3 := Lib.hid hb3
        clear hb2 hb3
        cases b with
        | false =>
          go_wp2_with fail
          go_ret
          exact BoolIf.mk _ HB3.out fun _ => trivial
        | true =>
          go_wp2_with fail
          go_roundw
          case rel => exact ⟨k + 1, by omega, by go_num, HB3.out⟩
          case measure => simp [intOf]; omega
      · go_wp2_with fail
        go_ret
        exact BoolIf.mk _ HB.out fun _ => trivial
  · go_wp2_with fail
    go_ret
    exact BoolIf.mk _ (Below.refl _ _) fun _ => trivial

set_option maxRecDepth 100000 in
theorem zzFits3_any (v : Value) (l : Name) (w : World) (hN : NamesV w v l) : Calls Tryd.prog 10 #[v] w (BoolIf True w) := by
  obtain ⟨A, n, cap, rfl, hnc, hc, hA⟩ := hN
  have hnm : n ≤ maxLen := by omega
  unfold maxLen at hnm
  have HA := Lib.hid hA
  clear hA hnc hc
  go_enter Tryd.func10, Tryd.ntmps10
  by_cases hbig : n ≤ 2147483647
  · go_wp2_with fail
    go_loopw [10] (fun i wr => ∃ k : Nat, k ≤ n ∧ i = .int .i64 k ∧ Below w.heap.size w wr) (fun i _ => n - (intOf i).toNat)
    case atStart => exact ⟨0, by omega, rfl, Below.refl _ _⟩
    case round =>
      obtain ⟨k, hk, rfl, hb⟩ := hrel
      have HB := Lib.hid hb
      clear hb
      by_cases hlt : k < n
      · obtain ⟨ab, ao, rfl, hab, hcs⟩ := HA.out.2 (by omega)
        obtain ⟨v, c0', hv⟩ := hcs k hlt
        have c0 := (HB.out.cell (p := ⟨ab, _, none⟩) hab).trans c0'
        obtain ⟨A2, n2, cap2, rfl, h1, h2, h3, h4⟩ := hv.below HB.out
        have HV := Lib.hid (And.intro h3 h4)
        have hn2 : n2 ≤ maxLen := by omega
        clear hv hcs c0' h1 h2 h3 h4
        go_wp2_with fail
        refine (zzFits4_any A2 n2 cap2 _ _ HV.out.1 HV.out.2 hn2).mono ?_
        rintro e w2 ⟨b, rfl, hb2, -⟩
        have hb3 : Below w.heap.size w w2 := HB.out.trans (hb2.mono HB.out.size)
        have HB3 := Lib.hid hb3
        clear hb2 hb3
        cases b with
        | false =>
          go_wp2_with fail
          go_ret
          exact BoolIf.mk _ HB3.out fun _ => trivial
        | true =>
          go_wp2_with fail
          go_roundw
          case rel => exact ⟨k + 1, by omega, by go_num, HB3.out⟩
          case measure => simp [intOf]; omega
      · go_wp2_with fail
        go_ret
        exact BoolIf.mk _ HB.out fun _ => trivial
  · go_wp2_with fail
    go_ret
    exact BoolIf.mk _ (Below.refl _ _) fun _ => trivial
end Go.Proofs.YtnjjhklefamaoaaDoor
