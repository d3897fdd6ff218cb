/-
  FnConsumerBack: a state that was encoded is read as the same.
-/
import Derived.Test.YtchphfdoneckeaaDoorCw
import Derived.Test.YtchphfdoneckeaaDoorCu
namespace Go.Proofs.YtchphfdoneckeaaDoor.consumerBack
open Go.RowKit
open Cs (Wt Kp Ag)
open K (Yes)
open consumerUpdate (No fits_yes fits_no1 fits_no2)

set_option maxRecDepth 100000 in
theorem long1 (k : Kp) (A B : Option Addr) (n m c1 c2 : Nat) (w : World) (hn : 2147483647 < (n : Int)) : Calls Tryd.prog 6 #[.agg #[.int .u64 (k.dc : Int), .int .u64 (k.ds : Int), .int .u64 (k.fc : Int), .int .u64 (k.fs : Int), .slice A n c1, .slice B m c2]] w (Yes w) := by
  have h11 := fun (W : World) => (fits_no1 _ _ _ _ A B n m c1 c2 _ hn : Calls Tryd.prog 11 #[.agg #[.int .u64 (k.dc : Int), .int .u64 (k.ds : Int), .int .u64 (k.fc : Int), .int .u64 (k.fs : Int), .slice A n c1, .slice B m c2]] W (No W))
  go_enter Tryd.func6, Tryd.ntmps6
  go_wp2_with fail
  refine (h11 _).mono ?_
  rintro e w1 ⟨rfl, hb⟩
  have HB := Lib.hid (((Below.refl _ w).alloc (Nat.le_refl _) (.cells #[.int .u64 (k.dc : Int), .int .u64 (k.ds : Int), .int .u64 (k.fc : Int), .int .u64 (k.fs : Int), .slice A n c1, .slice B m c2] 31)).trans (hb.mono (by simp)))
  clear hb h11
  go_wp2_with fail
  go_ret
  exact ⟨rfl, HB.out⟩
set_option maxRecDepth 100000 in
theorem long2 (k : Kp) (A B : Option Addr) (n m c1 c2 : Nat) (w : World) (hn : ¬ 2147483647 < (n : Int)) (hm : 2147483647 < (m : Int)) : Calls Tryd.prog 6 #[.agg #[.int .u64 (k.dc : Int), .int .u64 (k.ds : Int), .int .u64 (k.fc : Int), .int .u64 (k.fs : Int), .slice A n c1, .slice B m c2]] w (Yes w) := by
  have h11 := fun (W : World) => (fits_no2 _ _ _ _ A B n m c1 c2 _ hn hm : Calls Tryd.prog 11 #[.agg #[.int .u64 (k.dc : Int), .int .u64 (k.ds : Int), .int .u64 (k.fc : Int), .int .u64 (k.fs : Int), .slice A n c1, .slice B m c2]] W (No W))
  go_enter Tryd.func6, Tryd.ntmps6
  go_wp2_with fail
  refine (h11 _).mono ?_
  rintro e w1 ⟨rfl, hb⟩
  have HB := Lib.hid (((Below.refl _ w).alloc (Nat.le_refl _) (.cells #[.int .u64 (k.dc : Int), .int .u64 (k.ds : Int), .int .u64 (k.fc : Int), .int .u64 (k.fs : Int), .slice A n c1, .slice B m c2] 31)).trans (hb.mono (by simp)))
  clear hb h11
  go_wp2_with fail
  go_ret
  exact ⟨rfl, HB.out⟩
set_option maxRecDepth 100000 in
theorem away1 (k : Kp) (A B : Option Addr) (n m c1 c2 : Nat) (te : TypeId) (ve : Value) (w : World) (hE : w.cell? ⟨1, 0, none⟩ = some (.iface te ve)) (hn : ¬ 2147483647 < (n : Int)) (hm : ¬ 2147483647 < (m : Int)) (h2 : 12 < (n : Int)) : Calls Tryd.prog 6 #[.agg #[.int .u64 (k.dc : Int), .int .u64 (k.ds : Int), .int .u64 (k.fc : Int), .int .u64 (k.fs : Int), .slice A n c1, .slice B m c2]] w (Yes w) := by
  have h11 := fun (W : World) => (fits_yes (k.dc : Int) (k.ds : Int) (k.fc : Int) (k.fs : Int) A B n m c1 c2 W hn hm)
  have HE := Lib.hid hE
  clear hE
  go_enter Tryd.func6, Tryd.ntmps6
  go_wp2_with fail
  refine (h11 _).mono ?_
  rintro e w1 ⟨rfl, hb⟩
  have hb1 : Below w.heap.size w w1 := ((Below.refl _ w).alloc (Nat.le_refl _) (.cells #[.int .u64 (k.dc : Int), .int .u64 (k.ds : Int), .int .u64 (k.fc : Int), .int .u64 (k.fs : Int), .slice A n c1, .slice B m c2] 31)).trans (hb.mono (by simp))
  have hx1 : w1.heap[w.heap.size]? = some (.cells #[.int .u64 (k.dc : Int), .int .u64 (k.ds : Int), .int .u64 (k.fc : Int), .int .u64 (k.fs : Int), .slice A n c1, .slice B m c2] 31 (0, 0)) := (hb.block _ (by simp)).trans (K.heap_alloc_at _ _)
  have m0 : w1.cell? ⟨w.heap.size, 0, none⟩ = some (.int .u64 (k.dc : Int)) := cell_of hx1 rfl
  have m1 : w1.cell? ⟨w.heap.size, 1, none⟩ = some (.int .u64 (k.ds : Int)) := cell_of hx1 rfl
  have m2 : w1.cell? ⟨w.heap.size, 2, none⟩ = some (.int .u64 (k.fc : Int)) := cell_of hx1 rfl
  have m3 : w1.cell? ⟨w.heap.size, 3, none⟩ = some (.int .u64 (k.fs : Int)) := cell_of hx1 rfl
  have m4 : w1.cell? ⟨w.heap.size, 4, none⟩ = some (.slice A n c1) := cell_of hx1 rfl
  have m5 : w1.cell? ⟨w.heap.size, 5, none⟩ = some (.slice B m c2) := cell_of hx1 rfl
  have HB1 := Lib.hid (And.intro hb1 hx1)
  clear hb hb1 hx1 h11
  have h8 := awake_any te ve w1 ((HB1.out.1.cell (p := ⟨1, 0, none⟩) (World.block_lt_of_cell? _ _ HE.out)).trans HE.out)
  go_wp2_with fail
  refine h8.mono ?_
  rintro e w9 ⟨rfl, hb⟩
  have HB9 := Lib.hid (HB1.out.1.trans (hb.mono HB1.out.1.size))
  clear hb h8
  go_wp2_with fail
  go_ret
  exact ⟨rfl, HB9.out⟩
set_option maxRecDepth 100000 in
theorem away2 (k : Kp) (A B : Option Addr) (n m c1 c2 : Nat) (te : TypeId) (ve : Value) (w : World) (hE : w.cell? ⟨1, 0, none⟩ = some (.iface te ve)) (hn : ¬ 2147483647 < (n : Int)) (hm : ¬ 2147483647 < (m : Int)) (h2 : ¬ 12 < (n : Int)) (h3 : 12 < (m : Int)) : Calls Tryd.prog 6 #[.agg #[.int .u64 (k.dc : Int), .int .u64 (k.ds : Int), .int .u64 (k.fc : Int), .int .u64 (k.fs : Int), .slice A n c1, .slice B m c2]] w (Yes w) := by
  have h11 := fun (W : World) => (fits_yes (k.dc : Int) (k.ds : Int) (k.fc : Int) (k.fs : Int) A B n m c1 c2 W hn hm)
  have HE := Lib.hid hE
  clear hE
  go_enter Tryd.func6, Tryd.ntmps6
  go_wp2_with fail
  refine (h11 _).mono ?_
  rintro e w1 ⟨rfl, hb⟩
  have hb1 : Below w.heap.size w w1 := ((Below.refl _ w).alloc (Nat.le_refl _) (.cells #[.int .u64 (k.dc : Int), .int .u64 (k.ds : Int), .int .u64 (k.fc : Int), .int .u64 (k.fs : Int), .slice A n c1, .slice B m c2] 31)).trans (hb.mono (by simp))
  have hx1 : w1.heap[w.heap.size]? = some (.cells #[.int .u64 (k.dc : Int), .int .u64 (k.ds : Int), .int .u64 (k.fc : Int), .int .u64 (k.fs : Int), .slice A n c1, .slice B m c2] 31 (0, 0)) := (hb.block _ (by simp)).trans (K.heap_alloc_at _ _)
  have m0 : w1.cell? ⟨w.heap.size, 0, none⟩ = some (.int .u64 (k.dc : Int)) := cell_of hx1 rfl
  have m1 : w1.cell? ⟨w.heap.size, 1, none⟩ = some (.int .u64 (k.ds : Int)) := cell_of hx1 rfl
  have m2 : w1.cell? ⟨w.heap.size, 2, none⟩ = some (.int .u64 (k.fc : Int)) := cell_of hx1 rfl
  have m3 : w1.cell? ⟨w.heap.size, 3, none⟩ = some (.int .u64 (k.fs : Int)) := cell_of hx1 rfl
  have m4 : w1.cell? ⟨w.heap.size, 4, none⟩ = some (.slice A n c1) := cell_of hx1 rfl
  have m5 : w1.cell? ⟨w.heap.size, 5, none⟩ = some (.slice B m c2) := cell_of hx1 rfl
  have HB1 := Lib.hid (And.intro hb1 hx1)
  clear hb hb1 hx1 h11
  have h8 := awake_any te ve w1 ((HB1.out.1.cell (p := ⟨1, 0, none⟩) (World.block_lt_of_cell? _ _ HE.out)).trans HE.out)
  go_wp2_with fail
  refine h8.mono ?_
  rintro e w9 ⟨rfl, hb⟩
  have HB9 := Lib.hid (HB1.out.1.trans (hb.mono HB1.out.1.size))
  clear hb h8
  go_wp2_with fail
  go_ret
  exact ⟨rfl, HB9.out⟩
theorem bk_ok {k : Kp} {ag : List Ag} (hS : KSound k ag) (hd : k.dc ≤ 1099511627776 ∧ k.ds ≤ 1099511627776) (ht : ∀ x ∈ k.waits, 1 ≤ x.t ∧ x.t ≤ 1152921504606846976 ∧ x.t % 1000000000 = 0) (hy : ∀ x ∈ ag, x.n ≤ 1099511627776)
    (hl : k.waits.length ≤ 12) (hla : ag.length ≤ 12) (hs : ∀ x ∈ k.waits, x.s < 18446744073709551616) (hsa : ∀ x ∈ ag, x.s < 18446744073709551616 ∧ x.n < 18446744073709551616) : BkOk k ag := by
  have h1 := hS.snd.fc
  have h2 := hS.snd.fs
  refine ⟨⟨by omega, hS.snd.up, hS.up, fun x hx => ?_, fun x hx => ?_, hl, hla⟩, ⟨hS.snd, hS.up, hl, hla, fun h => ?_, hs, hsa⟩, fun x hx => (hS.a x hx).1, fun x hx => (ht x hx).2.2⟩
  · obtain ⟨_, y, hyw, e⟩ := hS.a x hx
    have h3 := hS.snd.w y hyw
    have h4 := hy x hx
    omega
  · have h3 := hS.snd.w x hx
    have h4 := ht x hx
    omega
  · cases hag : ag with
    | nil => rfl
    | cons x l =>
      obtain ⟨_, y, hy, _⟩ := hS.a x (by rw [hag]; simp)
      rw [h] at hy; cases hy
set_option maxHeartbeats 8000000 in
set_option maxRecDepth 100000 in
theorem main_any (k : Kp) (ag : List Ag) (A B : Option Addr) (n m c1 c2 : Nat) (te : TypeId) (ve : Value) (w : World) (hE : w.cell? ⟨1, 0, none⟩ = some (.iface te ve)) (hkn : k.waits.length = n) (hka : ag.length = m) (hW : WAt w A k.waits) (hA : AAt w B ag)
    (hs : ∀ x ∈ k.waits, x.s < 18446744073709551616) (hsa : ∀ x ∈ ag, x.s < 18446744073709551616 ∧ x.n < 18446744073709551616)
    (h2 : ¬ 12 < (n : Int)) (h3 : ¬ 12 < (m : Int)) : Calls Tryd.prog 6 #[.agg #[.int .u64 (k.dc : Int), .int .u64 (k.ds : Int), .int .u64 (k.fc : Int), .int .u64 (k.fs : Int), .slice A n c1, .slice B m c2]] w (Yes w) := by
  have hn : ¬ 2147483647 < (n : Int) := by omega
  have hm : ¬ 2147483647 < (m : Int) := by omega
  have HK := Lib.hid (And.intro hkn (And.intro hka (And.intro hW (And.intro hA (And.intro hs hsa)))))
  clear hkn hka hW hA hs hsa
  have h11 := fun (W : World) => (fits_yes (k.dc : Int) (k.ds : Int) (k.fc : Int) (k.fs : Int) A B n m c1 c2 W hn hm)
  have HE := Lib.hid hE
  clear hE
  go_enter Tryd.func6, Tryd.ntmps6
  go_wp2_with fail
  refine (h11 _).mono ?_
  rintro e w1 ⟨rfl, hb⟩
  have hb1 : Below w.heap.size w w1 := ((Below.refl _ w).alloc (Nat.le_refl _) (.cells #[.int .u64 (k.dc : Int), .int .u64 (k.ds : Int), .int .u64 (k.fc : Int), .int .u64 (k.fs : Int), .slice A n c1, .slice B m c2] 31)).trans (hb.mono (by simp))
  have hx1 : w1.heap[w.heap.size]? = some (.cells #[.int .u64 (k.dc : Int), .int .u64 (k.ds : Int), .int .u64 (k.fc : Int), .int .u64 (k.fs : Int), .slice A n c1, .slice B m c2] 31 (0, 0)) := (hb.block _ (by simp)).trans (K.heap_alloc_at _ _)

  have m0 : w1.cell? ⟨w.heap.size, 0, none⟩ = some (.int .u64 (k.dc : Int)) := cell_of hx1 rfl
  have m1 : w1.cell? ⟨w.heap.size, 1, none⟩ = some (.int .u64 (k.ds : Int)) := cell_of hx1 rfl
  have m2 : w1.cell? ⟨w.heap.size, 2, none⟩ = some (.int .u64 (k.fc : Int)) := cell_of hx1 rfl
  have m3 : w1.cell? ⟨w.heap.size, 3, none⟩ = some (.int .u64 (k.fs : Int)) := cell_of hx1 rfl
  have m4 : w1.cell? ⟨w.heap.size, 4, none⟩ = some (.slice A n c1) := cell_of hx1 rfl
  have m5 : w1.cell? ⟨w.heap.size, 5, none⟩ = some (.slice B m c2) := cell_of hx1 rfl

  have HB1 := Lib.hid (And.intro hb1 hx1)
  clear hb hb1 hx1 h11
  have hbW : But (fun _ => False) w w1 := ⟨HB1.out.1.os, HB1.out.1.tape, HB1.out.1.output, HB1.out.1.size, fun j hj _ => HB1.out.1.block j hj⟩
  have h12 := sound_any k ag A B c1 c2 w1 (HK.out.2.2.1.but hbW (fun _ _ h => h)) (HK.out.2.2.2.1.but hbW (fun _ _ h => h)) (by have := HK.out.1; omega) (by have := HK.out.2.1; omega)
  unfold keepV at h12
  rw [HK.out.1, HK.out.2.1] at h12
  clear hbW
  go_wp2_with fail
  refine h12.mono ?_
  rintro e w2 ⟨b2, rfl, hS, hb2⟩
  have hx2 := (hb2.block _ (lt_of_heap HB1.out.2)).trans HB1.out.2
  have HB2 := Lib.hid (And.intro (HB1.out.1.trans (hb2.mono HB1.out.1.size)) hx2)
  have HS := Lib.hid hS
  clear m0 m1 m2 m3 m4 m5 hb2 hx2 h12 hS
  cases b2 with
  | false =>
    have h8 := awake_any te ve w2 ((HB2.out.1.cell (p := ⟨1, 0, none⟩) (World.block_lt_of_cell? _ _ HE.out)).trans HE.out)
    go_wp2_with fail
    refine h8.mono ?_
    rintro e w9 ⟨rfl, hb⟩
    have HB9 := Lib.hid (HB2.out.1.trans (hb.mono HB2.out.1.size))
    clear hb h8
    go_wp2_with fail
    go_ret
    exact ⟨rfl, HB9.out⟩
  | true =>
  have HS2 := Lib.hid (HS.out rfl)
  clear HS
  have m0 : w2.cell? ⟨w.heap.size, 0, none⟩ = some (.int .u64 (k.dc : Int)) := cell_of HB2.out.2 rfl
  have m1 : w2.cell? ⟨w.heap.size, 1, none⟩ = some (.int .u64 (k.ds : Int)) := cell_of HB2.out.2 rfl
  have m2 : w2.cell? ⟨w.heap.size, 2, none⟩ = some (.int .u64 (k.fc : Int)) := cell_of HB2.out.2 rfl
  have m3 : w2.cell? ⟨w.heap.size, 3, none⟩ = some (.int .u64 (k.fs : Int)) := cell_of HB2.out.2 rfl
  have m4 : w2.cell? ⟨w.heap.size, 4, none⟩ = some (.slice A n c1) := cell_of HB2.out.2 rfl
  have m5 : w2.cell? ⟨w.heap.size, 5, none⟩ = some (.slice B m c2) := cell_of HB2.out.2 rfl

  by_cases d1 : k.dc ≤ 1099511627776
  case neg =>
    have d1' : (1099511627776 : Int) < (k.dc : Int) := by omega
    clear d1
    have h8 := awake_any te ve w2 ((HB2.out.1.cell (p := ⟨1, 0, none⟩) (World.block_lt_of_cell? _ _ HE.out)).trans HE.out)
    go_wp2_with fail
    refine h8.mono ?_
    rintro e w9 ⟨rfl, hb⟩
    have HB9 := Lib.hid (HB2.out.1.trans (hb.mono HB2.out.1.size))
    clear hb h8
    go_wp2_with fail
    go_ret
    exact ⟨rfl, HB9.out⟩
  by_cases d2 : k.ds ≤ 1099511627776
  case neg =>
    have d1' : ¬ (1099511627776 : Int) < (k.dc : Int) := by omega
    have d2' : (1099511627776 : Int) < (k.ds : Int) := by omega
    clear d1 d2
    have h8 := awake_any te ve w2 ((HB2.out.1.cell (p := ⟨1, 0, none⟩) (World.block_lt_of_cell? _ _ HE.out)).trans HE.out)
    go_wp2_with fail
    refine h8.mono ?_
    rintro e w9 ⟨rfl, hb⟩
    have HB9 := Lib.hid (HB2.out.1.trans (hb.mono HB2.out.1.size))
    clear hb h8
    go_wp2_with fail
    go_ret
    exact ⟨rfl, HB9.out⟩
  have d1' : ¬ (1099511627776 : Int) < (k.dc : Int) := by omega
  have d2' : ¬ (1099511627776 : Int) < (k.ds : Int) := by omega
  have HD := Lib.hid (And.intro d1 d2)
  clear d1 d2
  go_wp2_with fail
  clear d1' d2' m0 m1 m2 m3 m4 m5
  go_loopw [3] (fun i wr => ∃ j : Nat, j ≤ n ∧ i = .int .i64 (j : Int) ∧ Hid (But (fun _ => False) w2 wr ∧ ∀ i, i < j → ∀ x, k.waits[i]? = some x → 1 ≤ x.t ∧ x.t ≤ 1152921504606846976 ∧ x.t % 1000000000 = 0)) (fun i _ => n - (intOf i).toNat)
  case atStart => exact ⟨0, by omega, rfl, Lib.hid ⟨But.refl _ w2, fun i hi => absurd hi (by omega)⟩⟩
  case round =>
    obtain ⟨j, hj, rfl, HR⟩ := hrel
    have y1 := (HR.out.1.block _ (lt_of_heap HB2.out.2) (fun h => h)).trans HB2.out.2
    have m4 : wr.cell? ⟨w.heap.size, 4, none⟩ = some (.slice A n c1) := cell_of y1 rfl
    by_cases hlt : j < n
    · as_aux_lemma =>
      have hjl : j < k.waits.length := by rw [HK.out.1]; exact hlt
      have hbw : But (fun _ => False) w wr := (But.of HB2.out.1).trans HR.out.1
      obtain ⟨b1, o1, rfl, a0, a1, a2⟩ := (HK.out.2.2.1.but hbw (fun _ _ h => h)).get hjl
      obtain ⟨x, hxe⟩ : ∃ x, k.waits[j] = x := ⟨_, rfl⟩
      have hxq : k.waits[j]? = some x := List.getElem?_eq_some_iff.2 ⟨hjl, hxe⟩
      rw [hxe] at a2
      have hj0 : (0 : Int) ≤ (j : Int) := by omega
      have hj1 : (j : Int) < (n : Int) := by omega
      have HX := Lib.hid hxq
      have HBL := Lib.hid (But.below HB2.out.1 HR.out.1 (fun _ h => h.elim) HB2.out.1.size)
      have HJ := Lib.hid hlt
      clear a0 a1 hjl hxe hxq hlt y1 hbw
      by_cases h0 : x.t < 1
      · skip
        have h8 := awake_any te ve wr ((HBL.out.cell (p := ⟨1, 0, none⟩) (World.block_lt_of_cell? _ _ HE.out)).trans HE.out)
        go_wp2_with fail
        refine h8.mono ?_
        rintro e w9 ⟨rfl, hb⟩
        have HB9 := Lib.hid (HBL.out.trans (hb.mono HBL.out.size))
        clear hb h8
        go_wp2_with fail
        go_ret
        exact ⟨rfl, HB9.out⟩
      by_cases h1 : 1152921504606846976 < x.t
      · skip
        have h8 := awake_any te ve wr ((HBL.out.cell (p := ⟨1, 0, none⟩) (World.block_lt_of_cell? _ _ HE.out)).trans HE.out)
        go_wp2_with fail
        refine h8.mono ?_
        rintro e w9 ⟨rfl, hb⟩
        have HB9 := Lib.hid (HBL.out.trans (hb.mono HBL.out.size))
        clear hb h8
        go_wp2_with fail
        go_ret
        exact ⟨rfl, HB9.out⟩
      by_cases hz : x.t % 1000000000 = 0
      · have hz2 : (x.t % 1000000000 != 0) = false := by rw [hz]; rfl
        have HF := Lib.hid (And.intro h0 (And.intro h1 hz))
        go_wp2_with fail
        have hlt := HJ.out
        exact ⟨⟨j + 1, by omega, by go_num, Lib.hid ⟨HR.out.1, fun i hi y hy => by
          by_cases hij : i < j
          · exact HR.out.2 i hij y hy
          · obtain rfl : i = j := by omega
            rw [HX.out] at hy
            cases hy
            have := HF.out
            omega⟩⟩, by simp [intOf]; omega⟩
      · have hz2 : (x.t % 1000000000 != 0) = true := by simpa using hz
        have h8 := awake_any te ve wr ((HBL.out.cell (p := ⟨1, 0, none⟩) (World.block_lt_of_cell? _ _ HE.out)).trans HE.out)
        go_wp2_with fail
        refine h8.mono ?_
        rintro e w9 ⟨rfl, hb⟩
        have HB9 := Lib.hid (HBL.out.trans (hb.mono HBL.out.size))
        clear hb h8
        go_wp2_with fail
        go_ret
        exact ⟨rfl, HB9.out⟩
    · as_aux_lemma =>
      obtain rfl : j = n := by omega
      have HT := Lib.hid (show ∀ x ∈ k.waits, 1 ≤ x.t ∧ x.t ≤ 1152921504606846976 ∧ x.t % 1000000000 = 0 from fun x hx => by
        obtain ⟨i, hi, hxi⟩ := List.mem_iff_getElem.1 hx
        exact HR.out.2 i (by rw [← HK.out.1]; exact hi) x (by rw [List.getElem?_eq_getElem hi, hxi]))
      have HRW := Lib.hid HR.out.1
      have m5 : wr.cell? ⟨w.heap.size, 5, none⟩ = some (.slice B m c2) := cell_of y1 rfl
      clear hlt y1 HR
      go_wp2_with fail
      clear m4 m5
      go_loopw [4] (fun i wr => ∃ q : Nat, q ≤ m ∧ i = .int .i64 (q : Int) ∧ Hid (But (fun _ => False) w2 wr ∧ ∀ i, i < q → ∀ x, ag[i]? = some x → x.n ≤ 1099511627776)) (fun i _ => m - (intOf i).toNat)
      case atStart => exact ⟨0, by omega, rfl, Lib.hid ⟨HRW.out, fun i hi => absurd hi (by omega)⟩⟩
      case round =>
        obtain ⟨q, hq, rfl, HQ⟩ := hrel
        have y1 := (HQ.out.1.block _ (lt_of_heap HB2.out.2) (fun h => h)).trans HB2.out.2
        have m5 : wr.cell? ⟨w.heap.size, 5, none⟩ = some (.slice B m c2) := cell_of y1 rfl
        have HBL := Lib.hid (But.below HB2.out.1 HQ.out.1 (fun _ h => h.elim) HB2.out.1.size)
        by_cases hlt : q < m
        · as_aux_lemma =>
          have hjl : q < ag.length := by rw [HK.out.2.1]; exact hlt
          have hbw : But (fun _ => False) w wr := (But.of HB2.out.1).trans HQ.out.1
          obtain ⟨b1, o1, rfl, a0, a1⟩ := (HK.out.2.2.2.1.but hbw (fun _ _ h => h)).get hjl
          obtain ⟨x, hxe⟩ : ∃ x, ag[q] = x := ⟨_, rfl⟩
          have hxq : ag[q]? = some x := List.getElem?_eq_some_iff.2 ⟨hjl, hxe⟩
          rw [hxe] at a1
          have hj0 : (0 : Int) ≤ (q : Int) := by omega
          have hj1 : (q : Int) < (m : Int) := by omega
          have HX := Lib.hid hxq
          have HJ := Lib.hid hlt
          clear a0 hjl hxe hxq hlt y1 hbw
          by_cases h0 : (1099511627776 : Int) < (x.n : Int)
          · skip
            have h8 := awake_any te ve wr ((HBL.out.cell (p := ⟨1, 0, none⟩) (World.block_lt_of_cell? _ _ HE.out)).trans HE.out)
            go_wp2_with fail
            refine h8.mono ?_
            rintro e w9 ⟨rfl, hb⟩
            have HB9 := Lib.hid (HBL.out.trans (hb.mono HBL.out.size))
            clear hb h8
            go_wp2_with fail
            go_ret
            exact ⟨rfl, HB9.out⟩
          have HF := Lib.hid h0
          go_wp2_with fail
          have hlt := HJ.out
          exact ⟨⟨q + 1, by omega, by go_num, Lib.hid ⟨HQ.out.1, fun i hi y hy => by
            by_cases hij : i < q
            · exact HQ.out.2 i hij y hy
            · obtain rfl : i = q := by omega
              rw [HX.out] at hy
              cases hy
              have := HF.out
              omega⟩⟩, by simp [intOf]; omega⟩
        · as_aux_lemma =>
          obtain rfl : q = m := by omega
          have HY := Lib.hid (show ∀ x ∈ ag, x.n ≤ 1099511627776 from fun x hx => by
            obtain ⟨i, hi, hxi⟩ := List.mem_iff_getElem.1 hx
            exact HQ.out.2 i (by rw [← HK.out.2.1]; exact hi) x (by rw [List.getElem?_eq_getElem hi, hxi]))
          have hbw : But (fun _ => False) w wr := (But.of HB2.out.1).trans HQ.out.1
          have hf : BkOk k ag := bk_ok HS2.out HD.out HT.out HY.out (by have := HK.out.1; omega) (by have := HK.out.2.1; omega) HK.out.2.2.2.2.1 HK.out.2.2.2.2.2
          have hld : (Instr.loadAt 31 (.pointer (some ⟨w.heap.size, 0, none⟩))).run Tryd.prog wr = .ok (keepV k A c1 (.slice B ag.length c2)) wr := load_both k A c1 B ag.length c2 (fun r v hv => by
            rw [Nat.zero_add]
            unfold keepRow at hv
            rw [HK.out.1, HK.out.2.1] at hv
            exact cell_of y1 (by simpa using hv))
          have hW := HK.out.2.2.1.but hbw (fun _ _ h => h)
          have hA := HK.out.2.2.2.1.but hbw (fun _ _ h => h)
          have HF := Lib.hid (And.intro hf (And.intro hW (And.intro hA y1)))
          have hz31 : wr.heap.size = wr.heap.size := rfl
          clear hf hW hA y1 hlt hbw hz31
          generalize hKV : keepV k A c1 (.slice B ag.length c2) = KV at hld
          have HKV := Lib.hid hKV
          clear hKV
          go_wp2_with (refine wpList_load_eq rfl 31 (.tmp 1) rfl _ _ rfl hld ?_)
          have h14 := bytes_any k ag A B c1 c2 wr HF.out.2.1 HF.out.2.2.1 HF.out.1
          rw [HKV.out] at h14
          clear hld
          refine h14.mono ?_
          rintro e w4 ⟨A5, cap5, B5, capB5, rfl, hW5, hA5, hb4⟩
          have H5 := Lib.hid (And.intro hW5 (And.intro hA5 hb4))
          clear hW5 hA5 hb4 h14
          have y4 := (H5.out.2.2.block _ (lt_of_heap HF.out.2.2.2)).trans HF.out.2.2.2
          clear m5
          have p0 : w4.cell? ⟨w.heap.size, 0, none⟩ = some (.int .u64 (k.dc : Int)) := cell_of y4 rfl
          have m0 := past p0
          have p1 : w4.cell? ⟨w.heap.size, 1, none⟩ = some (.int .u64 (k.ds : Int)) := cell_of y4 rfl
          have m1 := past p1
          have p2 : w4.cell? ⟨w.heap.size, 2, none⟩ = some (.int .u64 (k.fc : Int)) := cell_of y4 rfl
          have m2 := past p2
          have p3 : w4.cell? ⟨w.heap.size, 3, none⟩ = some (.int .u64 (k.fs : Int)) := cell_of y4 rfl
          have m3 := past p3
          have p4 : w4.cell? ⟨w.heap.size, 4, none⟩ = some (.slice A j c1) := cell_of y4 rfl
          have m4 := past p4
          have p5 : w4.cell? ⟨w.heap.size, 5, none⟩ = some (.slice B q c2) := cell_of y4 rfl
          have m5 := past p5
          have hb5 : Below w.heap.size w w4 := HBL.out.trans (H5.out.2.2.mono HBL.out.size)
          have hb6 : Below w.heap.size w (w4.alloc (.cells #[.int .u64 (k.dc : Int), .int .u64 (k.ds : Int), .int .u64 (k.fc : Int), .int .u64 (k.fs : Int), .slice A5 j cap5, .slice B5 q capB5] 31)) := hb5.alloc hb5.size _
          have hbx : But (fun _ => False) w4 (w4.alloc (.cells #[.int .u64 (k.dc : Int), .int .u64 (k.ds : Int), .int .u64 (k.fc : Int), .int .u64 (k.fs : Int), .slice A5 j cap5, .slice B5 q capB5] 31)) := (But.refl _ _).alloc _
          have hbk : But (fun _ => False) wr (w4.alloc (.cells #[.int .u64 (k.dc : Int), .int .u64 (k.ds : Int), .int .u64 (k.fc : Int), .int .u64 (k.fs : Int), .slice A5 j cap5, .slice B5 q capB5] 31)) := (But.of H5.out.2.2).trans hbx
          have h10 := same_all k ag A5 A B5 B cap5 c1 capB5 c2 (w4.alloc (.cells #[.int .u64 (k.dc : Int), .int .u64 (k.ds : Int), .int .u64 (k.fc : Int), .int .u64 (k.fs : Int), .slice A5 j cap5, .slice B5 q capB5] 31)) (H5.out.1.but hbx (fun _ _ h => h)) (HF.out.2.1.but hbk (fun _ _ h => h)) (H5.out.2.1.but hbx (fun _ _ h => h)) (HF.out.2.2.1.but hbk (fun _ _ h => h)) HF.out.1.f.l HF.out.1.f.la
          have H6 := Lib.hid hb6
          unfold keepV at h10 ⊢
          rw [HK.out.1, HK.out.2.1] at h10 ⊢
          clear y4 hb5 hb6 hbx hbk
          go_wp2_with fail
          refine h10.mono ?_
          rintro e w6 ⟨rfl, hb⟩
          have HB7 := Lib.hid (H6.out.trans (hb.mono H6.out.size))
          clear m0 m1 m2 m3 m4 m5 p0 p1 p2 p3 p4 p5 hb h10
          have h8 := awake_any te ve w6 ((HB7.out.cell (p := ⟨1, 0, none⟩) (World.block_lt_of_cell? _ _ HE.out)).trans HE.out)
          go_wp2_with fail
          refine h8.mono ?_
          rintro e w9 ⟨rfl, hb⟩
          have HB9 := Lib.hid (HB7.out.trans (hb.mono HB7.out.size))
          clear hb h8
          go_wp2_with fail
          go_ret
          exact ⟨rfl, HB9.out⟩
set_option maxRecDepth 100000 in
theorem law_any (k : Kp) (ag : List Ag) (A B : Option Addr) (n m c1 c2 : Nat) (te : TypeId) (ve : Value) (w : World) (hE : w.cell? ⟨1, 0, none⟩ = some (.iface te ve)) (hkn : k.waits.length = n) (hka : ag.length = m) (hW : WAt w A k.waits) (hA : AAt w B ag)
    (hs : ∀ x ∈ k.waits, x.s < 18446744073709551616) (hsa : ∀ x ∈ ag, x.s < 18446744073709551616 ∧ x.n < 18446744073709551616) : Calls Tryd.prog 6 #[.agg #[.int .u64 (k.dc : Int), .int .u64 (k.ds : Int), .int .u64 (k.fc : Int), .int .u64 (k.fs : Int), .slice A n c1, .slice B m c2]] w (Yes w) := by
  by_cases hn : 2147483647 < (n : Int)
  · exact long1 k A B n m c1 c2 w hn
  by_cases hm : 2147483647 < (m : Int)
  · exact long2 k A B n m c1 c2 w hn hm
  by_cases h2 : 12 < (n : Int)
  · exact away1 k A B n m c1 c2 te ve w hE hn hm h2
  by_cases h3 : 12 < (m : Int)
  · exact away2 k A B n m c1 c2 te ve w hE hn hm h2 h3
  exact main_any k ag A B n m c1 c2 te ve w hE hkn hka hW hA hs hsa h2 h3
end Go.Proofs.YtchphfdoneckeaaDoor.consumerBack
