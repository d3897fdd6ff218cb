/-
  FnConsumerUpdate: a new consumer that is given a state has it.
-/
import Derived.Test.YtchphfdoneckeaaDoorCn
import Derived.Test.YtchphfdoneckeaaDoorSx
import Derived.Test.YtchphfdoneckeaaDoorSy
import Derived.BigQuiet
namespace Go.Proofs.YtchphfdoneckeaaDoor.consumerUpdate
open Go.RowKit
open Cs (Wt Kp Ag)
open K (Yes)

set_option maxRecDepth 100000 in
theorem fits_yes (d1 d2 d3 d4 : Int) (A B : Option Addr) (n m c1 c2 : Nat) (w : World) (hn : ¬ 2147483647 < (n : Int)) (hm : ¬ 2147483647 < (m : Int)) :
    Calls Tryd.prog 11 #[.agg #[.int .u64 d1, .int .u64 d2, .int .u64 d3, .int .u64 d4, .slice A n c1, .slice B m c2]] w (Yes w) := by
  go_enter Tryd.func11, Tryd.ntmps11
  go_wp2_with fail
  go_ret
  exact ⟨rfl, (Below.refl _ w).alloc (Nat.le_refl _) _⟩
def No (w : World) (e : Ending) (w' : World) : Prop := e = .returned (.bool false) ∧ Below w.heap.size w w'
set_option maxRecDepth 100000 in
theorem fits_no1 (d1 d2 d3 d4 : Int) (A B : Option Addr) (n m c1 c2 : Nat) (w : World) (hn : 2147483647 < (n : Int)) :
    Calls Tryd.prog 11 #[.agg #[.int .u64 d1, .int .u64 d2, .int .u64 d3, .int .u64 d4, .slice A n c1, .slice B m c2]] w (No w) := by
  go_enter Tryd.func11, Tryd.ntmps11
  go_wp2_with fail
  go_ret
  exact ⟨rfl, (Below.refl _ w).alloc (Nat.le_refl _) _⟩
set_option maxRecDepth 100000 in
theorem fits_no2 (d1 d2 d3 d4 : Int) (A B : Option Addr) (n m c1 c2 : Nat) (w : World) (hn : ¬ 2147483647 < (n : Int)) (hm : 2147483647 < (m : Int)) :
    Calls Tryd.prog 11 #[.agg #[.int .u64 d1, .int .u64 d2, .int .u64 d3, .int .u64 d4, .slice A n c1, .slice B m c2]] w (No w) := by
  go_enter Tryd.func11, Tryd.ntmps11
  go_wp2_with fail
  go_ret
  exact ⟨rfl, (Below.refl _ w).alloc (Nat.le_refl _) _⟩
def NearPost (dc ds : Nat) (w : World) (e : Ending) (w' : World) : Prop := ∃ b : Bool, e = .returned (.bool b) ∧ (b = true → dc ≤ 65536 ∧ ds ≤ 65536) ∧ Below w.heap.size w w'
set_option maxRecDepth 100000 in
theorem near_any (dc ds : Nat) (d3 d4 : Int) (A B : Option Addr) (n m c1 c2 : Nat) (w : World) :
    Calls Tryd.prog 13 #[.agg #[.int .u64 (dc : Int), .int .u64 (ds : Int), .int .u64 d3, .int .u64 d4, .slice A n c1, .slice B m c2]] w (NearPost dc ds w) := by
  by_cases h1 : dc ≤ 65536
  · have h1' : (dc : Int) ≤ 65536 := by omega
    have g1 : decide (dc ≤ 65536) = true := by simpa using h1
    by_cases h2 : ds ≤ 65536
    · have h2' : (ds : Int) ≤ 65536 := by omega
      have g2 : decide (ds ≤ 65536) = true := by simpa using h2
      have HH := Lib.hid (And.intro h1 h2)
      clear h1 h2
      go_enter Tryd.func13, Tryd.ntmps13
      go_wp2_with fail
      go_ret
      exact ⟨true, rfl, fun _ => HH.out, (Below.refl _ w).alloc (Nat.le_refl _) _⟩
    · have h2' : (65536 : Int) < (ds : Int) := by omega
      have g2 : decide (ds ≤ 65536) = false := by simpa using h2
      clear h1 h2
      go_enter Tryd.func13, Tryd.ntmps13
      go_wp2_with fail
      go_ret
      exact ⟨decide ((ds : Int) ≤ 65536), rfl, (fun h => by simp at h; omega), (Below.refl _ w).alloc (Nat.le_refl _) _⟩
  · have h1' : (65536 : Int) < (dc : Int) := by omega
    have g1 : decide (dc ≤ 65536) = false := by simpa using h1
    clear h1
    go_enter Tryd.func13, Tryd.ntmps13
    go_wp2_with fail
    go_ret
    exact ⟨false, rfl, (fun h => by cases h), (Below.refl _ w).alloc (Nat.le_refl _) _⟩
set_option maxRecDepth 100000 in
theorem long1 (ack : Int) (k : Kp) (A B : Option Addr) (n m c1 c2 : Nat) (w : World) (hn : 2147483647 < (n : Int)) : Calls Tryd.prog 5 #[.int .i64 ack, .agg #[.int .u64 (k.dc : Int), .int .u64 (k.ds : Int), .int .u64 (k.fc : Int), .int .u64 (k.fs : Int), .slice A n c1, .slice B m c2]] w (Yes w) := by
  have h11 := fun (W : World) => (fits_no1 _ _ _ _ A B n m c1 c2 _ hn : Calls Tryd.prog 11 #[.agg #[.int .u64 (k.dc : Int), .int .u64 (k.ds : Int), .int .u64 (k.fc : Int), .int .u64 (k.fs : Int), .slice A n c1, .slice B m c2]] W (No W))
  go_enter Tryd.func5, Tryd.ntmps5
  go_wp2_with fail
  refine (h11 _).mono ?_
  rintro e w1 ⟨rfl, hb⟩
  have HB := Lib.hid (((Below.refl _ w).alloc (Nat.le_refl _) (.cells #[.int .u64 (k.dc : Int), .int .u64 (k.ds : Int), .int .u64 (k.fc : Int), .int .u64 (k.fs : Int), .slice A n c1, .slice B m c2] 31)).trans (hb.mono (by simp)))
  clear hb h11
  go_wp2_with fail
  go_ret
  exact ⟨rfl, HB.out⟩
set_option maxRecDepth 100000 in
theorem long2 (ack : Int) (k : Kp) (A B : Option Addr) (n m c1 c2 : Nat) (w : World) (hn : ¬ 2147483647 < (n : Int)) (hm : 2147483647 < (m : Int)) : Calls Tryd.prog 5 #[.int .i64 ack, .agg #[.int .u64 (k.dc : Int), .int .u64 (k.ds : Int), .int .u64 (k.fc : Int), .int .u64 (k.fs : Int), .slice A n c1, .slice B m c2]] w (Yes w) := by
  have h11 := fun (W : World) => (fits_no2 _ _ _ _ A B n m c1 c2 _ hn hm : Calls Tryd.prog 11 #[.agg #[.int .u64 (k.dc : Int), .int .u64 (k.ds : Int), .int .u64 (k.fc : Int), .int .u64 (k.fs : Int), .slice A n c1, .slice B m c2]] W (No W))
  go_enter Tryd.func5, Tryd.ntmps5
  go_wp2_with fail
  refine (h11 _).mono ?_
  rintro e w1 ⟨rfl, hb⟩
  have HB := Lib.hid (((Below.refl _ w).alloc (Nat.le_refl _) (.cells #[.int .u64 (k.dc : Int), .int .u64 (k.ds : Int), .int .u64 (k.fc : Int), .int .u64 (k.fs : Int), .slice A n c1, .slice B m c2] 31)).trans (hb.mono (by simp)))
  clear hb h11
  go_wp2_with fail
  go_ret
  exact ⟨rfl, HB.out⟩
set_option maxRecDepth 100000 in
theorem away0 (ack : Int) (k : Kp) (A B : Option Addr) (n m c1 c2 : Nat) (te : TypeId) (ve : Value) (w : World) (hE : w.cell? ⟨1, 0, none⟩ = some (.iface te ve)) (hn : ¬ 2147483647 < (n : Int)) (hm : ¬ 2147483647 < (m : Int)) (h0 : ack < 0) : Calls Tryd.prog 5 #[.int .i64 ack, .agg #[.int .u64 (k.dc : Int), .int .u64 (k.ds : Int), .int .u64 (k.fc : Int), .int .u64 (k.fs : Int), .slice A n c1, .slice B m c2]] w (Yes w) := by
  have h11 := fun (W : World) => (fits_yes (k.dc : Int) (k.ds : Int) (k.fc : Int) (k.fs : Int) A B n m c1 c2 W hn hm)
  have HE := Lib.hid hE
  clear hE
  go_enter Tryd.func5, Tryd.ntmps5
  go_wp2_with fail
  refine (h11 _).mono ?_
  rintro e w1 ⟨rfl, hb⟩
  have hb1 : Below w.heap.size w w1 := ((Below.refl _ w).alloc (Nat.le_refl _) (.cells #[.int .u64 (k.dc : Int), .int .u64 (k.ds : Int), .int .u64 (k.fc : Int), .int .u64 (k.fs : Int), .slice A n c1, .slice B m c2] 31)).trans (hb.mono (by simp))
  have hx1 : w1.heap[w.heap.size]? = some (.cells #[.int .u64 (k.dc : Int), .int .u64 (k.ds : Int), .int .u64 (k.fc : Int), .int .u64 (k.fs : Int), .slice A n c1, .slice B m c2] 31 (0, 0)) := (hb.block _ (by simp)).trans (K.heap_alloc_at _ _)
  have m0 : w1.cell? ⟨w.heap.size, 0, none⟩ = some (.int .u64 (k.dc : Int)) := cell_of hx1 rfl
  have m1 : w1.cell? ⟨w.heap.size, 1, none⟩ = some (.int .u64 (k.ds : Int)) := cell_of hx1 rfl
  have m2 : w1.cell? ⟨w.heap.size, 2, none⟩ = some (.int .u64 (k.fc : Int)) := cell_of hx1 rfl
  have m3 : w1.cell? ⟨w.heap.size, 3, none⟩ = some (.int .u64 (k.fs : Int)) := cell_of hx1 rfl
  have m4 : w1.cell? ⟨w.heap.size, 4, none⟩ = some (.slice A n c1) := cell_of hx1 rfl
  have m5 : w1.cell? ⟨w.heap.size, 5, none⟩ = some (.slice B m c2) := cell_of hx1 rfl
  have HB1 := Lib.hid (And.intro hb1 hx1)
  clear hb hb1 hx1 h11
  have h8 := awake_any te ve w1 ((HB1.out.1.cell (p := ⟨1, 0, none⟩) (World.block_lt_of_cell? _ _ HE.out)).trans HE.out)
  go_wp2_with fail
  refine h8.mono ?_
  rintro e w3 ⟨rfl, hb⟩
  have HB3 := Lib.hid (HB1.out.1.trans (hb.mono HB1.out.1.size))
  clear hb h8
  go_wp2_with fail
  go_ret
  exact ⟨rfl, HB3.out⟩
set_option maxRecDepth 100000 in
theorem away1 (ack : Int) (k : Kp) (A B : Option Addr) (n m c1 c2 : Nat) (te : TypeId) (ve : Value) (w : World) (hE : w.cell? ⟨1, 0, none⟩ = some (.iface te ve)) (hn : ¬ 2147483647 < (n : Int)) (hm : ¬ 2147483647 < (m : Int)) (h0 : ¬ ack < 0) (h1 : 2 < ack) : Calls Tryd.prog 5 #[.int .i64 ack, .agg #[.int .u64 (k.dc : Int), .int .u64 (k.ds : Int), .int .u64 (k.fc : Int), .int .u64 (k.fs : Int), .slice A n c1, .slice B m c2]] w (Yes w) := by
  have h11 := fun (W : World) => (fits_yes (k.dc : Int) (k.ds : Int) (k.fc : Int) (k.fs : Int) A B n m c1 c2 W hn hm)
  have HE := Lib.hid hE
  clear hE
  go_enter Tryd.func5, Tryd.ntmps5
  go_wp2_with fail
  refine (h11 _).mono ?_
  rintro e w1 ⟨rfl, hb⟩
  have hb1 : Below w.heap.size w w1 := ((Below.refl _ w).alloc (Nat.le_refl _) (.cells #[.int .u64 (k.dc : Int), .int .u64 (k.ds : Int), .int .u64 (k.fc : Int), .int .u64 (k.fs : Int), .slice A n c1, .slice B m c2] 31)).trans (hb.mono (by simp))
  have hx1 : w1.heap[w.heap.size]? = some (.cells #[.int .u64 (k.dc : Int), .int .u64 (k.ds : Int), .int .u64 (k.fc : Int), .int .u64 (k.fs : Int), .slice A n c1, .slice B m c2] 31 (0, 0)) := (hb.block _ (by simp)).trans (K.heap_alloc_at _ _)
  have m0 : w1.cell? ⟨w.heap.size, 0, none⟩ = some (.int .u64 (k.dc : Int)) := cell_of hx1 rfl
  have m1 : w1.cell? ⟨w.heap.size, 1, none⟩ = some (.int .u64 (k.ds : Int)) := cell_of hx1 rfl
  have m2 : w1.cell? ⟨w.heap.size, 2, none⟩ = some (.int .u64 (k.fc : Int)) := cell_of hx1 rfl
  have m3 : w1.cell? ⟨w.heap.size, 3, none⟩ = some (.int .u64 (k.fs : Int)) := cell_of hx1 rfl
  have m4 : w1.cell? ⟨w.heap.size, 4, none⟩ = some (.slice A n c1) := cell_of hx1 rfl
  have m5 : w1.cell? ⟨w.heap.size, 5, none⟩ = some (.slice B m c2) := cell_of hx1 rfl
  have HB1 := Lib.hid (And.intro hb1 hx1)
  clear hb hb1 hx1 h11
  have h8 := awake_any te ve w1 ((HB1.out.1.cell (p := ⟨1, 0, none⟩) (World.block_lt_of_cell? _ _ HE.out)).trans HE.out)
  go_wp2_with fail
  refine h8.mono ?_
  rintro e w3 ⟨rfl, hb⟩
  have HB3 := Lib.hid (HB1.out.1.trans (hb.mono HB1.out.1.size))
  clear hb h8
  go_wp2_with fail
  go_ret
  exact ⟨rfl, HB3.out⟩
set_option maxRecDepth 100000 in
theorem away2 (ack : Int) (k : Kp) (A B : Option Addr) (n m c1 c2 : Nat) (te : TypeId) (ve : Value) (w : World) (hE : w.cell? ⟨1, 0, none⟩ = some (.iface te ve)) (hn : ¬ 2147483647 < (n : Int)) (hm : ¬ 2147483647 < (m : Int)) (h0 : ¬ ack < 0) (h1 : ¬ 2 < ack) (h2 : 8 < (n : Int)) : Calls Tryd.prog 5 #[.int .i64 ack, .agg #[.int .u64 (k.dc : Int), .int .u64 (k.ds : Int), .int .u64 (k.fc : Int), .int .u64 (k.fs : Int), .slice A n c1, .slice B m c2]] w (Yes w) := by
  have h11 := fun (W : World) => (fits_yes (k.dc : Int) (k.ds : Int) (k.fc : Int) (k.fs : Int) A B n m c1 c2 W hn hm)
  have HE := Lib.hid hE
  clear hE
  go_enter Tryd.func5, Tryd.ntmps5
  go_wp2_with fail
  refine (h11 _).mono ?_
  rintro e w1 ⟨rfl, hb⟩
  have hb1 : Below w.heap.size w w1 := ((Below.refl _ w).alloc (Nat.le_refl _) (.cells #[.int .u64 (k.dc : Int), .int .u64 (k.ds : Int), .int .u64 (k.fc : Int), .int .u64 (k.fs : Int), .slice A n c1, .slice B m c2] 31)).trans (hb.mono (by simp))
  have hx1 : w1.heap[w.heap.size]? = some (.cells #[.int .u64 (k.dc : Int), .int .u64 (k.ds : Int), .int .u64 (k.fc : Int), .int .u64 (k.fs : Int), .slice A n c1, .slice B m c2] 31 (0, 0)) := (hb.block _ (by simp)).trans (K.heap_alloc_at _ _)
  have m0 : w1.cell? ⟨w.heap.size, 0, none⟩ = some (.int .u64 (k.dc : Int)) := cell_of hx1 rfl
  have m1 : w1.cell? ⟨w.heap.size, 1, none⟩ = some (.int .u64 (k.ds : Int)) := cell_of hx1 rfl
  have m2 : w1.cell? ⟨w.heap.size, 2, none⟩ = some (.int .u64 (k.fc : Int)) := cell_of hx1 rfl
  have m3 : w1.cell? ⟨w.heap.size, 3, none⟩ = some (.int .u64 (k.fs : Int)) := cell_of hx1 rfl
  have m4 : w1.cell? ⟨w.heap.size, 4, none⟩ = some (.slice A n c1) := cell_of hx1 rfl
  have m5 : w1.cell? ⟨w.heap.size, 5, none⟩ = some (.slice B m c2) := cell_of hx1 rfl
  have HB1 := Lib.hid (And.intro hb1 hx1)
  clear hb hb1 hx1 h11
  have h8 := awake_any te ve w1 ((HB1.out.1.cell (p := ⟨1, 0, none⟩) (World.block_lt_of_cell? _ _ HE.out)).trans HE.out)
  go_wp2_with fail
  refine h8.mono ?_
  rintro e w3 ⟨rfl, hb⟩
  have HB3 := Lib.hid (HB1.out.1.trans (hb.mono HB1.out.1.size))
  clear hb h8
  go_wp2_with fail
  go_ret
  exact ⟨rfl, HB3.out⟩
set_option maxRecDepth 100000 in
theorem away3 (ack : Int) (k : Kp) (A B : Option Addr) (n m c1 c2 : Nat) (te : TypeId) (ve : Value) (w : World) (hE : w.cell? ⟨1, 0, none⟩ = some (.iface te ve)) (hn : ¬ 2147483647 < (n : Int)) (hm : ¬ 2147483647 < (m : Int)) (h0 : ¬ ack < 0) (h1 : ¬ 2 < ack) (h2 : ¬ 8 < (n : Int)) (h3 : 8 < (m : Int)) : Calls Tryd.prog 5 #[.int .i64 ack, .agg #[.int .u64 (k.dc : Int), .int .u64 (k.ds : Int), .int .u64 (k.fc : Int), .int .u64 (k.fs : Int), .slice A n c1, .slice B m c2]] w (Yes w) := by
  have h11 := fun (W : World) => (fits_yes (k.dc : Int) (k.ds : Int) (k.fc : Int) (k.fs : Int) A B n m c1 c2 W hn hm)
  have HE := Lib.hid hE
  clear hE
  go_enter Tryd.func5, Tryd.ntmps5
  go_wp2_with fail
  refine (h11 _).mono ?_
  rintro e w1 ⟨rfl, hb⟩
  have hb1 : Below w.heap.size w w1 := ((Below.refl _ w).alloc (Nat.le_refl _) (.cells #[.int .u64 (k.dc : Int), .int .u64 (k.ds : Int), .int .u64 (k.fc : Int), .int .u64 (k.fs : Int), .slice A n c1, .slice B m c2] 31)).trans (hb.mono (by simp))
  have hx1 : w1.heap[w.heap.size]? = some (.cells #[.int .u64 (k.dc : Int), .int .u64 (k.ds : Int), .int .u64 (k.fc : Int), .int .u64 (k.fs : Int), .slice A n c1, .slice B m c2] 31 (0, 0)) := (hb.block _ (by simp)).trans (K.heap_alloc_at _ _)
  have m0 : w1.cell? ⟨w.heap.size, 0, none⟩ = some (.int .u64 (k.dc : Int)) := cell_of hx1 rfl
  have m1 : w1.cell? ⟨w.heap.size, 1, none⟩ = some (.int .u64 (k.ds : Int)) := cell_of hx1 rfl
  have m2 : w1.cell? ⟨w.heap.size, 2, none⟩ = some (.int .u64 (k.fc : Int)) := cell_of hx1 rfl
  have m3 : w1.cell? ⟨w.heap.size, 3, none⟩ = some (.int .u64 (k.fs : Int)) := cell_of hx1 rfl
  have m4 : w1.cell? ⟨w.heap.size, 4, none⟩ = some (.slice A n c1) := cell_of hx1 rfl
  have m5 : w1.cell? ⟨w.heap.size, 5, none⟩ = some (.slice B m c2) := cell_of hx1 rfl
  have HB1 := Lib.hid (And.intro hb1 hx1)
  clear hb hb1 hx1 h11
  have h8 := awake_any te ve w1 ((HB1.out.1.cell (p := ⟨1, 0, none⟩) (World.block_lt_of_cell? _ _ HE.out)).trans HE.out)
  go_wp2_with fail
  refine h8.mono ?_
  rintro e w3 ⟨rfl, hb⟩
  have HB3 := Lib.hid (HB1.out.1.trans (hb.mono HB1.out.1.size))
  clear hb h8
  go_wp2_with fail
  go_ret
  exact ⟨rfl, HB3.out⟩
set_option maxHeartbeats 8000000 in
set_option maxRecDepth 100000 in
theorem main_any (ack : Int) (k : Kp) (ag : List Ag) (A B : Option Addr) (n m c1 c2 : Nat) (te : TypeId) (ve : Value) (w : World) (hE : w.cell? ⟨1, 0, none⟩ = some (.iface te ve)) (hkn : k.waits.length = n) (hka : ag.length = m) (hW : WAt w A k.waits) (hA : AAt w B ag)
    (hs : ∀ x ∈ k.waits, x.s < 18446744073709551616) (hsa : ∀ x ∈ ag, x.s < 18446744073709551616 ∧ x.n < 18446744073709551616)
    (h0 : ¬ ack < 0) (h1 : ¬ 2 < ack) (h2 : ¬ 8 < (n : Int)) (h3 : ¬ 8 < (m : Int)) : Calls Tryd.prog 5 #[.int .i64 ack, .agg #[.int .u64 (k.dc : Int), .int .u64 (k.ds : Int), .int .u64 (k.fc : Int), .int .u64 (k.fs : Int), .slice A n c1, .slice B m c2]] w (Yes w) := by
  have hn : ¬ 2147483647 < (n : Int) := by omega
  have hm : ¬ 2147483647 < (m : Int) := by omega
  have HK := Lib.hid (And.intro hkn (And.intro hka (And.intro hW (And.intro hA (And.intro hs hsa)))))
  clear hkn hka hW hA hs hsa
  have h11 := fun (W : World) => (fits_yes (k.dc : Int) (k.ds : Int) (k.fc : Int) (k.fs : Int) A B n m c1 c2 W hn hm)
  have HE := Lib.hid hE
  clear hE
  go_enter Tryd.func5, Tryd.ntmps5
  go_wp2_with fail
  refine (h11 _).mono ?_
  rintro e w1 ⟨rfl, hb⟩
  have hb1 : Below w.heap.size w w1 := ((Below.refl _ w).alloc (Nat.le_refl _) (.cells #[.int .u64 (k.dc : Int), .int .u64 (k.ds : Int), .int .u64 (k.fc : Int), .int .u64 (k.fs : Int), .slice A n c1, .slice B m c2] 31)).trans (hb.mono (by simp))
  have hx1 : w1.heap[w.heap.size]? = some (.cells #[.int .u64 (k.dc : Int), .int .u64 (k.ds : Int), .int .u64 (k.fc : Int), .int .u64 (k.fs : Int), .slice A n c1, .slice B m c2] 31 (0, 0)) := (hb.block _ (by simp)).trans (K.heap_alloc_at _ _)
  have m0 : w1.cell? ⟨w.heap.size, 0, none⟩ = some (.int .u64 (k.dc : Int)) := cell_of hx1 rfl
  have m1 : w1.cell? ⟨w.heap.size, 1, none⟩ = some (.int .u64 (k.ds : Int)) := cell_of hx1 rfl
  have m2 : w1.cell? ⟨w.heap.size, 2, none⟩ = some (.int .u64 (k.fc : Int)) := cell_of hx1 rfl
  have m3 : w1.cell? ⟨w.heap.size, 3, none⟩ = some (.int .u64 (k.fs : Int)) := cell_of hx1 rfl
  have m4 : w1.cell? ⟨w.heap.size, 4, none⟩ = some (.slice A n c1) := cell_of hx1 rfl
  have m5 : w1.cell? ⟨w.heap.size, 5, none⟩ = some (.slice B m c2) := cell_of hx1 rfl
  have HB1 := Lib.hid (And.intro hb1 hx1)
  clear hb hb1 hx1 h11
  have hbW : But (fun _ => False) w w1 := ⟨HB1.out.1.os, HB1.out.1.tape, HB1.out.1.output, HB1.out.1.size, fun j hj _ => HB1.out.1.block j hj⟩
  have h12 := sound_any k ag A B c1 c2 w1 (HK.out.2.2.1.but hbW (fun _ _ h => h)) (HK.out.2.2.2.1.but hbW (fun _ _ h => h)) (by have := HK.out.1; omega) (by have := HK.out.2.1; omega)
  unfold keepV at h12
  rw [HK.out.1, HK.out.2.1] at h12
  clear hbW
  go_wp2_with fail
  refine h12.mono ?_
  rintro e w2 ⟨b2, rfl, hS, hb2⟩
  have hx2 := (hb2.block _ (lt_of_heap HB1.out.2)).trans HB1.out.2
  have HB2 := Lib.hid (And.intro (HB1.out.1.trans (hb2.mono HB1.out.1.size)) hx2)
  have HS := Lib.hid hS
  clear m0 m1 m2 m3 m4 m5 hb2 hx2 h12 hS
  cases b2 with
  | false =>
    have h8 := awake_any te ve w2 ((HB2.out.1.cell (p := ⟨1, 0, none⟩) (World.block_lt_of_cell? _ _ HE.out)).trans HE.out)
    go_wp2_with fail
    refine h8.mono ?_
    rintro e w3 ⟨rfl, hb⟩
    have HB3 := Lib.hid (HB2.out.1.trans (hb.mono HB2.out.1.size))
    clear hb h8
    go_wp2_with fail
    go_ret
    exact ⟨rfl, HB3.out⟩
  | true =>
    have HS2 := Lib.hid (HS.out rfl)
    clear HS
    have m0 : w2.cell? ⟨w.heap.size, 0, none⟩ = some (.int .u64 (k.dc : Int)) := cell_of HB2.out.2 rfl
    have m1 : w2.cell? ⟨w.heap.size, 1, none⟩ = some (.int .u64 (k.ds : Int)) := cell_of HB2.out.2 rfl
    have m2 : w2.cell? ⟨w.heap.size, 2, none⟩ = some (.int .u64 (k.fc : Int)) := cell_of HB2.out.2 rfl
    have m3 : w2.cell? ⟨w.heap.size, 3, none⟩ = some (.int .u64 (k.fs : Int)) := cell_of HB2.out.2 rfl
    have m4 : w2.cell? ⟨w.heap.size, 4, none⟩ = some (.slice A n c1) := cell_of HB2.out.2 rfl
    have m5 : w2.cell? ⟨w.heap.size, 5, none⟩ = some (.slice B m c2) := cell_of HB2.out.2 rfl
    have h13 := near_any k.dc k.ds (k.fc : Int) (k.fs : Int) A B n m c1 c2 w2
    go_wp2_with fail
    refine h13.mono ?_
    rintro e w3 ⟨b3, rfl, _, hb3⟩
    have hx3 := (hb3.block _ (lt_of_heap HB2.out.2)).trans HB2.out.2
    have HB3 := Lib.hid (And.intro (HB2.out.1.trans (hb3.mono HB2.out.1.size)) hx3)
    clear m0 m1 m2 m3 m4 m5 hb3 hx3 h13
    cases b3 with
    | false =>
      have h8 := awake_any te ve w3 ((HB3.out.1.cell (p := ⟨1, 0, none⟩) (World.block_lt_of_cell? _ _ HE.out)).trans HE.out)
      go_wp2_with fail
      refine h8.mono ?_
      rintro e w4 ⟨rfl, hb⟩
      have HB4 := Lib.hid (HB3.out.1.trans (hb.mono HB3.out.1.size))
      clear hb h8
      go_wp2_with fail
      go_ret
      exact ⟨rfl, HB4.out⟩
    | true =>
      have m0 : w3.cell? ⟨w.heap.size, 0, none⟩ = some (.int .u64 (k.dc : Int)) := cell_of HB3.out.2 rfl
      have m1 : w3.cell? ⟨w.heap.size, 1, none⟩ = some (.int .u64 (k.ds : Int)) := cell_of HB3.out.2 rfl
      have m2 : w3.cell? ⟨w.heap.size, 2, none⟩ = some (.int .u64 (k.fc : Int)) := cell_of HB3.out.2 rfl
      have m3 : w3.cell? ⟨w.heap.size, 3, none⟩ = some (.int .u64 (k.fs : Int)) := cell_of HB3.out.2 rfl
      have m4 : w3.cell? ⟨w.heap.size, 4, none⟩ = some (.slice A n c1) := cell_of HB3.out.2 rfl
      have m5 : w3.cell? ⟨w.heap.size, 5, none⟩ = some (.slice B m c2) := cell_of HB3.out.2 rfl
      have hf : KFits k ag := ⟨HS2.out.snd, HS2.out.up, by have := HK.out.1; omega, by have := HK.out.2.1; omega, (fun h => by
        cases hag : ag with
        | nil => rfl
        | cons x l =>
          obtain ⟨_, y, hy, _⟩ := HS2.out.a x (by rw [hag]; simp)
          rw [h] at hy; cases hy), HK.out.2.2.2.2.1, HK.out.2.2.2.2.2⟩
      have hnw : (w3.alloc (.cells #[.int .i64 3, .int .u64 0, .int .u64 0, .int .u64 0, .int .i64 0, .int .u64 (k.dc : Int), .int .u64 (k.ds : Int), .int .u64 (k.fc : Int), .int .u64 (k.fs : Int), .slice A n c1, .slice B m c2] 37)).heap[w3.heap.size]? = some (.cells #[.int .i64 3, .int .u64 0, .int .u64 0, .int .u64 0, .int .i64 0, .int .u64 (k.dc : Int), .int .u64 (k.ds : Int), .int .u64 (k.fc : Int), .int .u64 (k.fs : Int), .slice A n c1, .slice B m c2] 37 (0, 0)) := K.heap_alloc_at _ _
      have hbA : Below w.heap.size w (w3.alloc (.cells #[.int .i64 3, .int .u64 0, .int .u64 0, .int .u64 0, .int .i64 0, .int .u64 (k.dc : Int), .int .u64 (k.ds : Int), .int .u64 (k.fc : Int), .int .u64 (k.fs : Int), .slice A n c1, .slice B m c2] 37)) := HB3.out.1.alloc HB3.out.1.size _
      have hbN : But (fun _ => False) w (w3.alloc (.cells #[.int .i64 3, .int .u64 0, .int .u64 0, .int .u64 0, .int .i64 0, .int .u64 (k.dc : Int), .int .u64 (k.ds : Int), .int .u64 (k.fc : Int), .int .u64 (k.fs : Int), .slice A n c1, .slice B m c2] 37)) := ⟨hbA.os, hbA.tape, hbA.output, hbA.size, fun j hj _ => hbA.block j hj⟩
      have h9 := consumer_one w3.heap.size 0 1 ack k ag A B c1 c2 (w3.alloc (.cells #[.int .i64 3, .int .u64 0, .int .u64 0, .int .u64 0, .int .i64 0, .int .u64 (k.dc : Int), .int .u64 (k.ds : Int), .int .u64 (k.fc : Int), .int .u64 (k.fs : Int), .slice A n c1, .slice B m c2] 37)) (by simp) (fun j v hv => by
        refine (show (w3.alloc (.cells #[.int .i64 3, .int .u64 0, .int .u64 0, .int .u64 0, .int .i64 0, .int .u64 (k.dc : Int), .int .u64 (k.ds : Int), .int .u64 (k.fc : Int), .int .u64 (k.fs : Int), .slice A n c1, .slice B m c2] 37)).cell? ⟨w3.heap.size, 0 + j, none⟩ = some v from ?_)
        rw [Nat.zero_add]
        unfold upRow at hv
        rw [HK.out.1, HK.out.2.1] at hv
        exact cell_of hnw hv) (HK.out.2.2.1.but hbN (fun _ _ h => h)) (HK.out.2.2.2.1.but hbN (fun _ _ h => h)) hf
      have HBA := Lib.hid hbA
      have HF := Lib.hid hf
      have hxA := (Below.heap_alloc w3 (.cells #[.int .i64 3, .int .u64 0, .int .u64 0, .int .u64 0, .int .i64 0, .int .u64 (k.dc : Int), .int .u64 (k.ds : Int), .int .u64 (k.fc : Int), .int .u64 (k.fs : Int), .slice A n c1, .slice B m c2] 37) _ (lt_of_heap HB3.out.2)).trans HB3.out.2
      have HXA := Lib.hid hxA
      clear hnw hbA hbN hf hxA
      go_wp2_with fail
      refine h9.mono ?_
      rintro e w4 ⟨gk, ck, gs, cs, A5, cap5, B5, capB5, rfl, hk0, hst, hW5, hA5, hb4⟩
      have hbw4 : Below w.heap.size w w4 := HBA.out.trans (hb4.mono HBA.out.size)
      have hx4 := (hb4.block _ (lt_of_heap HXA.out)).trans HXA.out
      have hb4w : But (fun _ => False) w w4 := ⟨hbw4.os, hbw4.tape, hbw4.output, hbw4.size, fun j hj _ => hbw4.block j hj⟩
      have hW4 := HK.out.2.2.1.but hb4w (fun _ _ h => h)
      have hA4 := HK.out.2.2.2.1.but hb4w (fun _ _ h => h)
      have hl1 : ∀ w', K.Grew w4 w' → (Instr.loadAt 31 (.pointer (some ⟨gs, 0, none⟩))).run Tryd.prog w' = .ok (keepV k A5 cap5 (.slice B5 ag.length capB5)) w' := fun w' hw' => load_both k A5 cap5 B5 ag.length capB5 (fun r v hv => K.Grew.cell hw' (by rw [Nat.zero_add]; exact hst r v hv))
      have hl2 : ∀ w', K.Grew w4 w' → (Instr.loadAt 31 (.pointer (some ⟨w.heap.size, 0, none⟩))).run Tryd.prog w' = .ok (keepV k A c1 (.slice B ag.length c2)) w' := fun w' hw' => load_both k A c1 B ag.length c2 (fun r v hv => K.Grew.cell hw' (by
        rw [Nat.zero_add]
        unfold keepRow at hv
        rw [HK.out.1, HK.out.2.1] at hv
        exact cell_of hx4 (by simpa using hv)))
      have h10 : ∀ w', K.Grew w4 w' → Calls Tryd.prog 10 #[keepV k A5 cap5 (.slice B5 ag.length capB5), keepV k A c1 (.slice B ag.length c2)] w' (Yes w') := fun w' hw' => same_all k ag A5 A B5 B cap5 c1 capB5 c2 w' (hW5.grew hw') (hW4.grew hw') (hA5.but (But.of (S := fun _ => False) hw') (fun _ _ h => h)) (hA4.but (But.of (S := fun _ => False) hw') (fun _ _ h => h)) HF.out.l HF.out.la
      have hE4 : w4.cell? ⟨1, 0, none⟩ = some (.iface te ve) := (hbw4.cell (p := ⟨1, 0, none⟩) (World.block_lt_of_cell? _ _ HE.out)).trans HE.out
      have h8 : ∀ w', K.Grew w4 w' → Calls Tryd.prog 8 #[] w' (Yes w') := fun w' hw' => awake_any te ve w' (K.Grew.cell hw' hE4)
      have HB4 := Lib.hid hbw4
      clear hst hW5 hA5 hb4 h9 hx4 hb4w hW4 hA4 hE4 hbw4 m0 m1 m2 m3 m4 m5
      generalize keepV k A5 cap5 (.slice B5 ag.length capB5) = K1 at hl1 h10
      generalize keepV k A c1 (.slice B ag.length c2) = K2 at hl2 h10
      go_wp2_with fail
      refine K.wp_region_grew (by kernel_rfl) (by kernel_rfl) ?_
      repeat (first
        | go_big_quiet_skip
        | (go_big_quiet_want; refine K.quiet_load _ _ rfl _ rfl ?_ ?_ ?_
           rotate_left
           · assumption
           simp only [Act.put, List.setIfInBounds_toArray, List.set_cons_zero, List.set_cons_succ]
           go_big_quiet_on)
        | (go_big_quiet_want; go_big_quiet_op; go_big_quiet_on)
        | (go_big_quiet_want; go_big_quiet_op; refine ⟨_, fun _ _ => rfl, ?_⟩; go_big_quiet_on)
        | (go_big_quiet_want; refine K.quiet_cell (v := ?_) ?_ _ _ rfl rfl ?_ ?_
           rotate_left
           · assumption
           · (intro w hw; go_simp)
           simp only [Act.put, List.setIfInBounds_toArray, List.set_cons_zero, List.set_cons_succ]
           go_big_quiet_on)
        | (go_big_quiet_want; go_big_quiet_op; apply Exists.intro
           refine ⟨fun w hw => ?_, ?_⟩
           · first | with_reducible exact quiet_of_yes hw (h10 _ hw) | with_reducible exact quiet_of_yes hw (h8 _ hw)
           go_big_quiet_on))
      refine wpQuiet_nil ?_
      intro w5 hw5
      have HG5 := Lib.hid hw5
      clear hw5 h10 h8 hl1 hl2 hk0
      go_wp2_with fail
      go_ret
      exact ⟨rfl, HB4.out.trans (Below.mono HG5.out HB4.out.size)⟩
end Go.Proofs.YtchphfdoneckeaaDoor.consumerUpdate
