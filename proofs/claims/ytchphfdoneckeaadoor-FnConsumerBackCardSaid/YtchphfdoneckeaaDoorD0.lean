/-
  decodeConsumerState: all of it.
-/
import Derived.Test.YtchphfdoneckeaaDoorD1
import Derived.Laws.Bits64b
namespace Go.Proofs.YtchphfdoneckeaaDoor
open Go.RowKit Go.Lib
open Cs (Wt Kp Ag)

def DePost (k : Kp) (ag : List Ag) (w : World) (e : Ending) (w' : World) : Prop :=
  ∃ S pv rv, e = .returned (.tuple #[.pointer (some ⟨S, 0, none⟩), .nilIface]) ∧ KeptAt w' S k pv rv ∧ Pend w' pv 12 k.waits ∧ Redel w' rv 12 ag ∧ (ag = [] → rv = .map none) ∧ Below w.heap.size w w'
theorem hi_no (n : Nat) (h : n < 9223372036854775808) : bits .and .u64 (n : Int) 9223372036854775808 = 0 := by
  have h1 := bits_and_u64_nat n 9223372036854775808 (by omega) (by omega)
  have h2 : n &&& 9223372036854775808 = 0 := by
    apply Nat.eq_of_testBit_eq
    intro i
    rw [Nat.testBit_and, Nat.zero_testBit, show (9223372036854775808 : Nat) = 2 ^ 63 from rfl, Nat.testBit_two_pow]
    by_cases hi : 63 = i
    · subst hi
      rw [Nat.testBit_lt_two_pow (by omega)]
      rfl
    · simp [hi]
  rw [h2] at h1
  exact h1
set_option maxHeartbeats 8000000 in
set_option maxRecDepth 1000000 in
theorem decode_any (bb N M : Nat) (k : Kp) (ag ys : List Ag) (ws : List Wt) (w : World) (hE : EncAt w bb M (encAll k ws ys)) (hN : (encAll k ws ys).length = N) (hM : M ≤ 1000000) (hkn : k.fc < 9223372036854775808 ∧ k.fs < 9223372036854775808 ∧ k.dc < 9223372036854775808 ∧ k.ds < 9223372036854775808)
    (hy : ys.Perm ag) (hyl : ys.length ≤ 12) (hap : ys.Pairwise (fun a b => a.s ≠ b.s)) (hs : ∀ x ∈ ys, k.fs < x.s ∧ x.s < 9223372036854775808 ∧ 1 ≤ x.n ∧ x.n < 9223372036854775808)
    (hx : ws.Perm k.waits) (hxl : ws.length ≤ 12) (hxp : ws.Pairwise (fun a b => a.s ≠ b.s)) (hw : ∀ x ∈ ws, k.fs < x.s ∧ x.s < 9223372036854775808 ∧ k.fc < x.c ∧ x.c < 9223372036854775808 ∧ 0 ≤ x.t ∧ x.t ≤ 1152921504606846976 ∧ x.t % 1000000000 = 0) :
    Calls Tryd.prog 34 #[.slice (some ⟨bb, 0, none⟩) N M] w (DePost k ag w) := by
  have HU := Lib.hid (And.intro hy (And.intro hyl (And.intro hap (And.intro hs (And.intro hx (And.intro hxl (And.intro hxp (And.intro hw hkn))))))))
  have hbl := hE.lt
  have hle := hE.le
  rw [hN] at hle
  have e1 : (w.alloc (.cells #[.slice (some ⟨bb, 0, none⟩) N M] 67)).heap.size = w.heap.size + 1 := by simp
  have hD1 : DecAt (w.alloc (.cells #[.slice (some ⟨bb, 0, none⟩) N M] 67)) w.heap.size bb N M (encAll k ws ys) := by
    have hb : But (fun _ => False) w (w.alloc (.cells #[.slice (some ⟨bb, 0, none⟩) N M] 67)) := (But.refl _ w).alloc _
    have h2 := hE.but hb (fun h => h)
    exact ⟨K.heap_alloc_at _ _, hN, hle, h2.lt, h2.got⟩
  obtain ⟨tl, htl⟩ : ∃ tl, encAll k ws ys = [22, 2] ++ tl := ⟨_, by unfold encAll encHd; simp only [List.append_assoc]; rfl⟩
  have h46 := check_any (by rw [← htl]; exact hD1) 
  have HD1 := Lib.hid (And.intro hD1 (And.intro hbl (And.intro hle hN)))
  clear hE hy hyl hap hs hx hxl hxp hw hkn hD1 hle hN htl hbl
  go_enter Tryd.func34, Tryd.ntmps34
  go_wp2_with fail
  refine h46.mono ?_
  rintro e w1 ⟨rfl, hw1⟩
  have HW1 := Lib.hid hw1
  subst hw1
  clear h46
  go_upto_region 10 with fail
  have e2 : ((w.alloc (.cells #[.slice (some ⟨bb, 0, none⟩) N M] 67)).alloc (.cells #[.int .i64 2] 3)).heap.size = w.heap.size + 1 + 1 := by simp
  have hb12 : But (fun _ => False) (w.alloc (.cells #[.slice (some ⟨bb, 0, none⟩) N M] 67)) (((w.alloc (.cells #[.slice (some ⟨bb, 0, none⟩) N M] 67)).alloc (.cells #[.int .i64 2] 3)).alloc (.cells #[.int .u64 0, .int .u64 0, .int .u64 0, .int .u64 0, .map none, .map none] 82)) := ((But.refl _ _).alloc _).alloc _
  have hD0 := HD1.out.1.but hb12 (fun h => h) (fun h => h)
  have hB0 : BiAt (((w.alloc (.cells #[.slice (some ⟨bb, 0, none⟩) N M] 67)).alloc (.cells #[.int .i64 2] 3)).alloc (.cells #[.int .u64 0, .int .u64 0, .int .u64 0, .int .u64 0, .map none, .map none] 82)) (w.heap.size + 1) 2 := by
    have h1 := K.heap_alloc_at (w.alloc (.cells #[.slice (some ⟨bb, 0, none⟩) N M] 67)) (.cells #[.int .i64 2] 3)
    rw [e1] at h1
    exact (Below.heap_alloc _ _ _ (by rw [e2]; omega)).trans h1
  have hK0 : KeptAt (((w.alloc (.cells #[.slice (some ⟨bb, 0, none⟩) N M] 67)).alloc (.cells #[.int .i64 2] 3)).alloc (.cells #[.int .u64 0, .int .u64 0, .int .u64 0, .int .u64 0, .map none, .map none] 82)) (w.heap.size + 1 + 1) ⟨0, 0, 0, 0, []⟩ (.map none) (.map none) := by
    have h1 := K.heap_alloc_at ((w.alloc (.cells #[.slice (some ⟨bb, 0, none⟩) N M] 67)).alloc (.cells #[.int .i64 2] 3)) (.cells #[.int .u64 0, .int .u64 0, .int .u64 0, .int .u64 0, .map none, .map none] 82)
    rw [e2] at h1
    exact h1
  have hbl : Below w.heap.size w (((w.alloc (.cells #[.slice (some ⟨bb, 0, none⟩) N M] 67)).alloc (.cells #[.int .i64 2] 3)).alloc (.cells #[.int .u64 0, .int .u64 0, .int .u64 0, .int .u64 0, .map none, .map none] 82)) := (((Below.refl _ w).alloc (Nat.le_refl _) _).alloc (by rw [e1]; omega) _).alloc (by rw [e2]; omega) _
  have HBL := Lib.hid hbl
  have hr0 : (encAll k ws ys).drop 2 = uvarint k.fc ++ (uvarint k.fs ++ (uvarint k.dc ++ (uvarint k.ds ++ (uvarint ws.length ++ (encP k ws ++ (uvarint ys.length ++ ys.flatMap (encAg k))))))) := by
    unfold encAll encHd
    simp [List.append_assoc]
  generalize (((w.alloc (.cells #[.slice (some ⟨bb, 0, none⟩) N M] 67)).alloc (.cells #[.int .i64 2] 3)).alloc (.cells #[.int .u64 0, .int .u64 0, .int .u64 0, .int .u64 0, .map none, .map none] 82)) = v0 at hD0 hB0 hK0 hbl HBL ⊢
  generalize hBI : w.heap.size + 1 = BI at hB0 hK0 ⊢
  generalize hS : BI + 1 = S at hK0 ⊢
  have hne : S ≠ BI ∧ S ≠ w.heap.size ∧ S ≠ bb ∧ BI ≠ w.heap.size ∧ BI ≠ bb := by have := HD1.out.2.1; omega
  have HNE := Lib.hid hne
  have HSZ := Lib.hid (show w.heap.size ≤ BI ∧ w.heap.size ≤ S by omega)
  generalize encAll k ws ys = all at hD0 hr0 HD1
  have hb0 : But (fun q => q = S ∨ q = BI) v0 v0 := But.refl _ _
  have H0 := Lib.hid (And.intro hK0 (And.intro hD0 (And.intro hB0 (And.intro hr0 hb0))))
  clear e1 e2 hb12 hD0 hB0 hK0 hbl hr0 hne hBI hS hb0
  have R0 := Lib.hid (read_u H0.out.2.1 H0.out.2.2.1 H0.out.2.2.2.1 HU.out.2.2.2.2.2.2.2.2.1 hM)
  go_wp2_with fail
  refine R0.out.mono ?_
  rintro e u1 ⟨rfl, hv⟩
  have hbi : But (fun q => q = BI) v0 u1 := by
    rw [hv]
    exact (But.refl _ v0).setCell _ _ (fun _ => rfl)
  obtain ⟨p1, hp⟩ : ∃ p, 2 + (uvarint k.fc).length = p := ⟨_, rfl⟩
  have hB : BiAt u1 BI p1 := by
    rw [hv, hp]
    exact BiAt.set H0.out.2.2.1 p1
  have hK := (hbi.block S (lt_of_heap H0.out.1) HNE.out.1).trans H0.out.1
  have hD := H0.out.2.1.but hbi (fun e => HNE.out.2.2.2.1 e.symm) (fun e => HNE.out.2.2.2.2 e.symm)
  have hr := congrArg (List.drop (uvarint k.fc).length) H0.out.2.2.2.1
  rw [List.drop_left, List.drop_drop, hp] at hr
  have c1 : u1.cell? ⟨S, 2, none⟩ = some (.int .u64 0) := cell_of hK rfl
  have f1 : u1.frozen? ⟨S, 2, none⟩ = false := thawed hK 2
  have hbS : But (fun q => q = S) u1 (u1.setCell ⟨S, 2, none⟩ (.int .u64 (k.fc : Int))) := (But.refl _ _).setCell _ _ (fun _ => rfl)
  have hK' : KeptAt (u1.setCell ⟨S, 2, none⟩ (.int .u64 (k.fc : Int))) S ⟨0, 0, k.fc, 0, []⟩ (.map none) (.map none) := K.heap_setCell_at hK _
  have hD' := hD.but hbS (fun e => HNE.out.2.1 e.symm) (fun e => HNE.out.2.2.1 e.symm)
  have hB' := (hbS.block BI (lt_of_heap hB) (fun e => HNE.out.1 e.symm)).trans hB
  have hb' := (H0.out.2.2.2.2.trans (hbi.mono (fun _ _ h => Or.inr h))).trans (hbS.mono (fun _ _ h => Or.inl h))
  have H1' := Lib.hid (And.intro hK' (And.intro hD' (And.intro hB' (And.intro hr hb'))))
  clear hv hbi hp hB hK hD hr hbS hK' hD' hB' hb' R0
  go_upto_region 11 with fail
  clear c1 f1
  generalize (u1.setCell ⟨S, 2, none⟩ (.int .u64 (k.fc : Int))) = v1 at H1' ⊢
  have H1 := Lib.hid (show KeptAt v1 S ⟨0, 0, k.fc, 0, []⟩ (.map none) (.map none) ∧ _ from H1'.out)
  clear H1'
  have R1 := Lib.hid (read_u H1.out.2.1 H1.out.2.2.1 H1.out.2.2.2.1 HU.out.2.2.2.2.2.2.2.2.2.1 hM)
  go_wp2_with fail
  refine R1.out.mono ?_
  rintro e u2 ⟨rfl, hv⟩
  have hbi : But (fun q => q = BI) v1 u2 := by
    rw [hv]
    exact (But.refl _ v1).setCell _ _ (fun _ => rfl)
  obtain ⟨p2, hp⟩ : ∃ p, p1 + (uvarint k.fs).length = p := ⟨_, rfl⟩
  have hB : BiAt u2 BI p2 := by
    rw [hv, hp]
    exact BiAt.set H1.out.2.2.1 p2
  have hK := (hbi.block S (lt_of_heap H1.out.1) HNE.out.1).trans H1.out.1
  have hD := H1.out.2.1.but hbi (fun e => HNE.out.2.2.2.1 e.symm) (fun e => HNE.out.2.2.2.2 e.symm)
  have hr := congrArg (List.drop (uvarint k.fs).length) H1.out.2.2.2.1
  rw [List.drop_left, List.drop_drop, hp] at hr
  have c1 : u2.cell? ⟨S, 3, none⟩ = some (.int .u64 0) := cell_of hK rfl
  have f1 : u2.frozen? ⟨S, 3, none⟩ = false := thawed hK 3
  have hbS : But (fun q => q = S) u2 (u2.setCell ⟨S, 3, none⟩ (.int .u64 (k.fs : Int))) := (But.refl _ _).setCell _ _ (fun _ => rfl)
  have hK' : KeptAt (u2.setCell ⟨S, 3, none⟩ (.int .u64 (k.fs : Int))) S ⟨0, 0, k.fc, k.fs, []⟩ (.map none) (.map none) := K.heap_setCell_at hK _
  have hD' := hD.but hbS (fun e => HNE.out.2.1 e.symm) (fun e => HNE.out.2.2.1 e.symm)
  have hB' := (hbS.block BI (lt_of_heap hB) (fun e => HNE.out.1 e.symm)).trans hB
  have hb' := (H1.out.2.2.2.2.trans (hbi.mono (fun _ _ h => Or.inr h))).trans (hbS.mono (fun _ _ h => Or.inl h))
  have H2' := Lib.hid (And.intro hK' (And.intro hD' (And.intro hB' (And.intro hr hb'))))
  clear hv hbi hp hB hK hD hr hbS hK' hD' hB' hb' R1
  go_upto_region 12 with fail
  clear c1 f1
  generalize (u2.setCell ⟨S, 3, none⟩ (.int .u64 (k.fs : Int))) = v2 at H2' ⊢
  have H2 := Lib.hid (show KeptAt v2 S ⟨0, 0, k.fc, k.fs, []⟩ (.map none) (.map none) ∧ _ from H2'.out)
  clear H2'
  have R2 := Lib.hid (read_u H2.out.2.1 H2.out.2.2.1 H2.out.2.2.2.1 HU.out.2.2.2.2.2.2.2.2.2.2.1 hM)
  go_wp2_with fail
  refine R2.out.mono ?_
  rintro e u3 ⟨rfl, hv⟩
  have hbi : But (fun q => q = BI) v2 u3 := by
    rw [hv]
    exact (But.refl _ v2).setCell _ _ (fun _ => rfl)
  obtain ⟨p3, hp⟩ : ∃ p, p2 + (uvarint k.dc).length = p := ⟨_, rfl⟩
  have hB : BiAt u3 BI p3 := by
    rw [hv, hp]
    exact BiAt.set H2.out.2.2.1 p3
  have hK := (hbi.block S (lt_of_heap H2.out.1) HNE.out.1).trans H2.out.1
  have hD := H2.out.2.1.but hbi (fun e => HNE.out.2.2.2.1 e.symm) (fun e => HNE.out.2.2.2.2 e.symm)
  have hr := congrArg (List.drop (uvarint k.dc).length) H2.out.2.2.2.1
  rw [List.drop_left, List.drop_drop, hp] at hr
  have c1 : u3.cell? ⟨S, 0, none⟩ = some (.int .u64 0) := cell_of hK rfl
  have f1 : u3.frozen? ⟨S, 0, none⟩ = false := thawed hK 0
  have hbS : But (fun q => q = S) u3 (u3.setCell ⟨S, 0, none⟩ (.int .u64 (k.dc : Int))) := (But.refl _ _).setCell _ _ (fun _ => rfl)
  have hK' : KeptAt (u3.setCell ⟨S, 0, none⟩ (.int .u64 (k.dc : Int))) S ⟨k.dc, 0, k.fc, k.fs, []⟩ (.map none) (.map none) := K.heap_setCell_at hK _
  have hD' := hD.but hbS (fun e => HNE.out.2.1 e.symm) (fun e => HNE.out.2.2.1 e.symm)
  have hB' := (hbS.block BI (lt_of_heap hB) (fun e => HNE.out.1 e.symm)).trans hB
  have hb' := (H2.out.2.2.2.2.trans (hbi.mono (fun _ _ h => Or.inr h))).trans (hbS.mono (fun _ _ h => Or.inl h))
  have H3' := Lib.hid (And.intro hK' (And.intro hD' (And.intro hB' (And.intro hr hb'))))
  clear hv hbi hp hB hK hD hr hbS hK' hD' hB' hb' R2
  go_upto_region 13 with fail
  clear c1 f1
  generalize (u3.setCell ⟨S, 0, none⟩ (.int .u64 (k.dc : Int))) = v3 at H3' ⊢
  have H3 := Lib.hid (show KeptAt v3 S ⟨k.dc, 0, k.fc, k.fs, []⟩ (.map none) (.map none) ∧ _ from H3'.out)
  clear H3'
  have R3 := Lib.hid (read_u H3.out.2.1 H3.out.2.2.1 H3.out.2.2.2.1 HU.out.2.2.2.2.2.2.2.2.2.2.2 hM)
  go_wp2_with fail
  refine R3.out.mono ?_
  rintro e u4 ⟨rfl, hv⟩
  have hbi : But (fun q => q = BI) v3 u4 := by
    rw [hv]
    exact (But.refl _ v3).setCell _ _ (fun _ => rfl)
  obtain ⟨p4, hp⟩ : ∃ p, p3 + (uvarint k.ds).length = p := ⟨_, rfl⟩
  have hB : BiAt u4 BI p4 := by
    rw [hv, hp]
    exact BiAt.set H3.out.2.2.1 p4
  have hK := (hbi.block S (lt_of_heap H3.out.1) HNE.out.1).trans H3.out.1
  have hD := H3.out.2.1.but hbi (fun e => HNE.out.2.2.2.1 e.symm) (fun e => HNE.out.2.2.2.2 e.symm)
  have hr := congrArg (List.drop (uvarint k.ds).length) H3.out.2.2.2.1
  rw [List.drop_left, List.drop_drop, hp] at hr
  have c1 : u4.cell? ⟨S, 1, none⟩ = some (.int .u64 0) := cell_of hK rfl
  have f1 : u4.frozen? ⟨S, 1, none⟩ = false := thawed hK 1
  have hbS : But (fun q => q = S) u4 (u4.setCell ⟨S, 1, none⟩ (.int .u64 (k.ds : Int))) := (But.refl _ _).setCell _ _ (fun _ => rfl)
  have hK' : KeptAt (u4.setCell ⟨S, 1, none⟩ (.int .u64 (k.ds : Int))) S ⟨k.dc, k.ds, k.fc, k.fs, []⟩ (.map none) (.map none) := K.heap_setCell_at hK _
  have hD' := hD.but hbS (fun e => HNE.out.2.1 e.symm) (fun e => HNE.out.2.2.1 e.symm)
  have hB' := (hbS.block BI (lt_of_heap hB) (fun e => HNE.out.1 e.symm)).trans hB
  have hb' := (H3.out.2.2.2.2.trans (hbi.mono (fun _ _ h => Or.inr h))).trans (hbS.mono (fun _ _ h => Or.inl h))
  have H4' := Lib.hid (And.intro hK' (And.intro hD' (And.intro hB' (And.intro hr hb'))))
  clear hv hbi hp hB hK hD hr hbS hK' hD' hB' hb' R3
  go_upto_region 14 with fail
  clear c1 f1
  generalize (u4.setCell ⟨S, 1, none⟩ (.int .u64 (k.ds : Int))) = v4 at H4' ⊢
  have H4 := Lib.hid (show KeptAt v4 S ⟨k.dc, k.ds, k.fc, k.fs, []⟩ (.map none) (.map none) ∧ _ from H4'.out)
  clear H4'
  have c2 := KeptAt.c2 H4.out.1
  have c3 := KeptAt.c3 H4.out.1
  have c0 := KeptAt.c0 H4.out.1
  have c1 := KeptAt.c1 H4.out.1
  have b4 : v4.cell? ⟨BI, 0, none⟩ = some (.int .i64 (p4 : Int)) := cell_of H4.out.2.2.1 rfl
  have hq4m : ¬ ((p4 : Int) = -1) := by omega
  have hand1 := hi_no k.fs HU.out.2.2.2.2.2.2.2.2.2.1
  have hand2 := hi_no k.ds HU.out.2.2.2.2.2.2.2.2.2.2.2
  have hand3 : (bits .and .u64 (k.fs : Int) 9223372036854775808 != 0) = false := by rw [hand1]; rfl
  have hand4 : (bits .and .u64 (k.ds : Int) 9223372036854775808 != 0) = false := by rw [hand2]; rfl
  go_upto_region 21 with fail
  rename_i K1 a1 K2 a2
  have HKS := Lib.hid a1
  clear a1 b4 hq4m
  go_wp2_with fail
  all_goals try exact (‹¬ bits .and .u64 (k.fs : Int) 9223372036854775808 = 0› hand1).elim
  all_goals try exact (Bool.noConfusion (hand4.symm.trans ‹(bits .and .u64 (k.ds : Int) 9223372036854775808 != 0) = true›))
  clear hand1 hand2 hand3 hand4
  refine HKS.out _ _ ?_
  clear HKS
  refine dec23 S BI w.heap.size bb N M p4 k ag ys ws all v4 _ _ _ _ _ _ _ _ _ _ _ _ _ _ _ _ _ _ _ _ _ _ _ _ _ _ _ _ _ _ _ _ _ _ _ _ _ _ _ _ _ _ _ _ _ _ _ _ _ _ _ _ _ _ _ _ _ _ _ _ _ _ _ _ _ _ _ _ _ _ _ _ _ _ _ _ _ _ _ _ _ _ _ _ _ _ _ _ _ _ _ _ _ _ _ _ _ _ _ _ _ _ _ _ _ _ _ _ _ _ _ _ _ _ _ _ _ _ _ _ _ _ _ _ _ _ _ _ _ _ _ _ _ _ _ _ _ _ _ _ _ _ _ _ _ _ _ _ _ _ _ _ _ _ _ _ _ _ _ _ _ _ _ _ _ _ _ _ _ _ _ _ _ _ _ _ _ _ _ _ _ _ _ _ _ _ _ _ _ _ _ _ _ _ _ _ _ _ _ _ _ _ _ _ _ _ _ _ _ _ _ _ _ _ _ _ _ _ _ _ _ _ (show KeptAt v4 S k (.map none) (.map none) from H4.out.1) H4.out.2.1 H4.out.2.2.1 H4.out.2.2.2.1 hM HNE.out HU.out.1 HU.out.2.1 HU.out.2.2.1 HU.out.2.2.2.1 HU.out.2.2.2.2.1 HU.out.2.2.2.2.2.1 HU.out.2.2.2.2.2.2.1 HU.out.2.2.2.2.2.2.2.1 ?_
  intro pv rv w' h1 h2 h3 h4 h5
  have hsz : w.heap.size ≤ v0.heap.size := HBL.out.size
  have hs4 : w.heap.size ≤ v4.heap.size := Nat.le_trans hsz H4.out.2.2.2.2.size
  have hz := HSZ.out
  have hb1 : But (fun q => w.heap.size ≤ q) v0 v4 := H4.out.2.2.2.2.mono (fun q _ h => by omega)
  have hb2 : But (fun q => w.heap.size ≤ q) v4 w' := h5.mono (fun q _ h => by omega)
  exact ⟨S, pv, rv, rfl, h1, h2, h3, h4, But.below HBL.out (hb1.trans hb2) (fun _ h => h) hsz⟩
end Go.Proofs.YtchphfdoneckeaaDoor
