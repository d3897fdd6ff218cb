/-
  FnConsumerOrder says yes: whatever the two orders, the state behind all is the same.
-/
import Derived.Test.YtchphfdoneckeaaDoorAl
namespace Go.Proofs.YtchphfdoneckeaaDoor.consumerOrder
open Go.RowKit
open Cs (Wt Kp)
open K (Yes Lies nums)
open consumerAll (qo wasSeen wasSeen_step ord_step RowAt row_seen_set orD_step)

/-- FnConsumerAll, whatever it is given -/
theorem all_any (m t : Int) (n cap : Nat) (A : Option Addr) (zs : List Int) (te : TypeId) (ve : Value) (w : World) (hE : w.cell? ⟨1, 0, none⟩ = some (.iface te ve)) (hA : Lies w A n (nums .i64 zs)) (hzl : zs.length = n) :
    Calls Tryd.prog 7 #[.int .i64 m, .slice A n cap, .int .i64 t] w (Yes w) := by
  by_cases hn : 2147483647 < (n : Int)
  · exact consumerAll.long m t n cap A w hn
  by_cases h0 : m < 1
  · exact consumerAll.away0 m t n cap A te ve w hE hn h0
  by_cases h1 : 12 < m
  · exact consumerAll.away1 m t n cap A te ve w hE hn h0 h1
  by_cases h2 : (n : Int) ≠ m
  · exact consumerAll.away2 m t n cap A te ve w hE hn h0 h1 h2
  by_cases h3 : t < 1
  · exact consumerAll.away3 m t n cap A te ve w hE hn h0 h1 h2 h3
  by_cases h4 : 1152921504606846976 < t
  · exact consumerAll.away4 m t n cap A te ve w hE hn h0 h1 h2 h3 h4
  obtain rfl : (n : Int) = m := by simpa using h2
  exact consumerAll.main_any n cap A zs t te ve w hE hA hzl h0 h1 h3 h4
set_option maxRecDepth 100000 in
theorem long1 (m t : Int) (n1 cap1 n2 cap2 : Nat) (A1 A2 : Option Addr) (w : World) (hn : 2147483647 < (n1 : Int)) : Calls Tryd.prog 3 #[.int .i64 m, .slice A1 n1 cap1, .slice A2 n2 cap2, .int .i64 t] w (Yes w) := by
  go_enter Tryd.func3, Tryd.ntmps3
  go_wp2_with fail
  go_ret
  exact ⟨rfl, Below.refl _ _⟩
set_option maxRecDepth 100000 in
theorem long2 (m t : Int) (n1 cap1 n2 cap2 : Nat) (A1 A2 : Option Addr) (w : World) (hn : ¬ 2147483647 < (n1 : Int)) (hn2 : 2147483647 < (n2 : Int)) : Calls Tryd.prog 3 #[.int .i64 m, .slice A1 n1 cap1, .slice A2 n2 cap2, .int .i64 t] w (Yes w) := by
  go_enter Tryd.func3, Tryd.ntmps3
  go_wp2_with fail
  go_ret
  exact ⟨rfl, Below.refl _ _⟩
set_option maxRecDepth 100000 in
theorem away0 (m t : Int) (n1 cap1 n2 cap2 : Nat) (A1 A2 : Option Addr) (zs ys : List Int) (te : TypeId) (ve : Value) (w : World) (hE : w.cell? ⟨1, 0, none⟩ = some (.iface te ve)) (hA : Lies w A1 n1 (nums .i64 zs)) (hB : Lies w A2 n2 (nums .i64 ys)) (hzl : zs.length = n1) (hyl : ys.length = n2) (hn1 : ¬ 2147483647 < (n1 : Int)) (hn2 : ¬ 2147483647 < (n2 : Int)) (h0 : m < 1) : Calls Tryd.prog 3 #[.int .i64 m, .slice A1 n1 cap1, .slice A2 n2 cap2, .int .i64 t] w (Yes w) := by
  have h7 := all_any m t n1 cap1 A1 zs te ve w hE hA hzl
  have HE := Lib.hid (And.intro hE (And.intro hA hB))
  clear hE hA hB hzl
  go_enter Tryd.func3, Tryd.ntmps3
  go_wp2_with fail
  refine h7.mono ?_
  rintro e w1 ⟨rfl, hb⟩
  have h7b := all_any m t n2 cap2 A2 ys te ve w1 ((hb.cell (p := ⟨1, 0, none⟩) (World.block_lt_of_cell? _ _ HE.out.1)).trans HE.out.1) (HE.out.2.2.below hb (Nat.le_refl _)) hyl
  have HB := Lib.hid hb
  clear hb h7 hyl
  go_wp2_with fail
  refine h7b.mono ?_
  rintro e w2 ⟨rfl, hb⟩
  have HB2 := Lib.hid (HB.out.trans (hb.mono HB.out.size))
  clear hb h7b HB
  have h8 := awake_any te ve w2 ((HB2.out.cell (p := ⟨1, 0, none⟩) (World.block_lt_of_cell? _ _ HE.out.1)).trans HE.out.1)
  go_wp2_with fail
  refine h8.mono ?_
  rintro e w3 ⟨rfl, hb⟩
  have HB3 := Lib.hid hb
  clear hb h8
  go_wp2_with fail
  go_ret
  exact ⟨rfl, HB2.out.trans (HB3.out.mono HB2.out.size)⟩
set_option maxRecDepth 100000 in
theorem away1 (m t : Int) (n1 cap1 n2 cap2 : Nat) (A1 A2 : Option Addr) (zs ys : List Int) (te : TypeId) (ve : Value) (w : World) (hE : w.cell? ⟨1, 0, none⟩ = some (.iface te ve)) (hA : Lies w A1 n1 (nums .i64 zs)) (hB : Lies w A2 n2 (nums .i64 ys)) (hzl : zs.length = n1) (hyl : ys.length = n2) (hn1 : ¬ 2147483647 < (n1 : Int)) (hn2 : ¬ 2147483647 < (n2 : Int)) (h0 : ¬ m < 1) (h1 : 12 < m) : Calls Tryd.prog 3 #[.int .i64 m, .slice A1 n1 cap1, .slice A2 n2 cap2, .int .i64 t] w (Yes w) := by
  have h7 := all_any m t n1 cap1 A1 zs te ve w hE hA hzl
  have HE := Lib.hid (And.intro hE (And.intro hA hB))
  clear hE hA hB hzl
  go_enter Tryd.func3, Tryd.ntmps3
  go_wp2_with fail
  refine h7.mono ?_
  rintro e w1 ⟨rfl, hb⟩
  have h7b := all_any m t n2 cap2 A2 ys te ve w1 ((hb.cell (p := ⟨1, 0, none⟩) (World.block_lt_of_cell? _ _ HE.out.1)).trans HE.out.1) (HE.out.2.2.below hb (Nat.le_refl _)) hyl
  have HB := Lib.hid hb
  clear hb h7 hyl
  go_wp2_with fail
  refine h7b.mono ?_
  rintro e w2 ⟨rfl, hb⟩
  have HB2 := Lib.hid (HB.out.trans (hb.mono HB.out.size))
  clear hb h7b HB
  have h8 := awake_any te ve w2 ((HB2.out.cell (p := ⟨1, 0, none⟩) (World.block_lt_of_cell? _ _ HE.out.1)).trans HE.out.1)
  go_wp2_with fail
  refine h8.mono ?_
  rintro e w3 ⟨rfl, hb⟩
  have HB3 := Lib.hid hb
  clear hb h8
  go_wp2_with fail
  go_ret
  exact ⟨rfl, HB2.out.trans (HB3.out.mono HB2.out.size)⟩
set_option maxRecDepth 100000 in
theorem away2 (m t : Int) (n1 cap1 n2 cap2 : Nat) (A1 A2 : Option Addr) (zs ys : List Int) (te : TypeId) (ve : Value) (w : World) (hE : w.cell? ⟨1, 0, none⟩ = some (.iface te ve)) (hA : Lies w A1 n1 (nums .i64 zs)) (hB : Lies w A2 n2 (nums .i64 ys)) (hzl : zs.length = n1) (hyl : ys.length = n2) (hn1 : ¬ 2147483647 < (n1 : Int)) (hn2 : ¬ 2147483647 < (n2 : Int)) (h0 : ¬ m < 1) (h1 : ¬ 12 < m) (h2 : (n1 : Int) ≠ m) : Calls Tryd.prog 3 #[.int .i64 m, .slice A1 n1 cap1, .slice A2 n2 cap2, .int .i64 t] w (Yes w) := by
  have h7 := all_any m t n1 cap1 A1 zs te ve w hE hA hzl
  have HE := Lib.hid (And.intro hE (And.intro hA hB))
  clear hE hA hB hzl
  go_enter Tryd.func3, Tryd.ntmps3
  go_wp2_with fail
  refine h7.mono ?_
  rintro e w1 ⟨rfl, hb⟩
  have h7b := all_any m t n2 cap2 A2 ys te ve w1 ((hb.cell (p := ⟨1, 0, none⟩) (World.block_lt_of_cell? _ _ HE.out.1)).trans HE.out.1) (HE.out.2.2.below hb (Nat.le_refl _)) hyl
  have HB := Lib.hid hb
  clear hb h7 hyl
  go_wp2_with fail
  refine h7b.mono ?_
  rintro e w2 ⟨rfl, hb⟩
  have HB2 := Lib.hid (HB.out.trans (hb.mono HB.out.size))
  clear hb h7b HB
  have h8 := awake_any te ve w2 ((HB2.out.cell (p := ⟨1, 0, none⟩) (World.block_lt_of_cell? _ _ HE.out.1)).trans HE.out.1)
  go_wp2_with fail
  refine h8.mono ?_
  rintro e w3 ⟨rfl, hb⟩
  have HB3 := Lib.hid hb
  clear hb h8
  go_wp2_with fail
  go_ret
  exact ⟨rfl, HB2.out.trans (HB3.out.mono HB2.out.size)⟩
set_option maxRecDepth 100000 in
theorem away3 (m t : Int) (n1 cap1 n2 cap2 : Nat) (A1 A2 : Option Addr) (zs ys : List Int) (te : TypeId) (ve : Value) (w : World) (hE : w.cell? ⟨1, 0, none⟩ = some (.iface te ve)) (hA : Lies w A1 n1 (nums .i64 zs)) (hB : Lies w A2 n2 (nums .i64 ys)) (hzl : zs.length = n1) (hyl : ys.length = n2) (hn1 : ¬ 2147483647 < (n1 : Int)) (hn2 : ¬ 2147483647 < (n2 : Int)) (h0 : ¬ m < 1) (h1 : ¬ 12 < m) (h2 : ¬ (n1 : Int) ≠ m) (h3 : (n2 : Int) ≠ m) : Calls Tryd.prog 3 #[.int .i64 m, .slice A1 n1 cap1, .slice A2 n2 cap2, .int .i64 t] w (Yes w) := by
  have h7 := all_any m t n1 cap1 A1 zs te ve w hE hA hzl
  have HE := Lib.hid (And.intro hE (And.intro hA hB))
  clear hE hA hB hzl
  go_enter Tryd.func3, Tryd.ntmps3
  go_wp2_with fail
  refine h7.mono ?_
  rintro e w1 ⟨rfl, hb⟩
  have h7b := all_any m t n2 cap2 A2 ys te ve w1 ((hb.cell (p := ⟨1, 0, none⟩) (World.block_lt_of_cell? _ _ HE.out.1)).trans HE.out.1) (HE.out.2.2.below hb (Nat.le_refl _)) hyl
  have HB := Lib.hid hb
  clear hb h7 hyl
  go_wp2_with fail
  refine h7b.mono ?_
  rintro e w2 ⟨rfl, hb⟩
  have HB2 := Lib.hid (HB.out.trans (hb.mono HB.out.size))
  clear hb h7b HB
  have h8 := awake_any te ve w2 ((HB2.out.cell (p := ⟨1, 0, none⟩) (World.block_lt_of_cell? _ _ HE.out.1)).trans HE.out.1)
  go_wp2_with fail
  refine h8.mono ?_
  rintro e w3 ⟨rfl, hb⟩
  have HB3 := Lib.hid hb
  clear hb h8
  go_wp2_with fail
  go_ret
  exact ⟨rfl, HB2.out.trans (HB3.out.mono HB2.out.size)⟩
set_option maxRecDepth 100000 in
theorem away4 (m t : Int) (n1 cap1 n2 cap2 : Nat) (A1 A2 : Option Addr) (zs ys : List Int) (te : TypeId) (ve : Value) (w : World) (hE : w.cell? ⟨1, 0, none⟩ = some (.iface te ve)) (hA : Lies w A1 n1 (nums .i64 zs)) (hB : Lies w A2 n2 (nums .i64 ys)) (hzl : zs.length = n1) (hyl : ys.length = n2) (hn1 : ¬ 2147483647 < (n1 : Int)) (hn2 : ¬ 2147483647 < (n2 : Int)) (h0 : ¬ m < 1) (h1 : ¬ 12 < m) (h2 : ¬ (n1 : Int) ≠ m) (h3 : ¬ (n2 : Int) ≠ m) (h4 : t < 1) : Calls Tryd.prog 3 #[.int .i64 m, .slice A1 n1 cap1, .slice A2 n2 cap2, .int .i64 t] w (Yes w) := by
  have h7 := all_any m t n1 cap1 A1 zs te ve w hE hA hzl
  have HE := Lib.hid (And.intro hE (And.intro hA hB))
  clear hE hA hB hzl
  go_enter Tryd.func3, Tryd.ntmps3
  go_wp2_with fail
  refine h7.mono ?_
  rintro e w1 ⟨rfl, hb⟩
  have h7b := all_any m t n2 cap2 A2 ys te ve w1 ((hb.cell (p := ⟨1, 0, none⟩) (World.block_lt_of_cell? _ _ HE.out.1)).trans HE.out.1) (HE.out.2.2.below hb (Nat.le_refl _)) hyl
  have HB := Lib.hid hb
  clear hb h7 hyl
  go_wp2_with fail
  refine h7b.mono ?_
  rintro e w2 ⟨rfl, hb⟩
  have HB2 := Lib.hid (HB.out.trans (hb.mono HB.out.size))
  clear hb h7b HB
  have h8 := awake_any te ve w2 ((HB2.out.cell (p := ⟨1, 0, none⟩) (World.block_lt_of_cell? _ _ HE.out.1)).trans HE.out.1)
  go_wp2_with fail
  refine h8.mono ?_
  rintro e w3 ⟨rfl, hb⟩
  have HB3 := Lib.hid hb
  clear hb h8
  go_wp2_with fail
  go_ret
  exact ⟨rfl, HB2.out.trans (HB3.out.mono HB2.out.size)⟩
set_option maxRecDepth 100000 in
theorem away5 (m t : Int) (n1 cap1 n2 cap2 : Nat) (A1 A2 : Option Addr) (zs ys : List Int) (te : TypeId) (ve : Value) (w : World) (hE : w.cell? ⟨1, 0, none⟩ = some (.iface te ve)) (hA : Lies w A1 n1 (nums .i64 zs)) (hB : Lies w A2 n2 (nums .i64 ys)) (hzl : zs.length = n1) (hyl : ys.length = n2) (hn1 : ¬ 2147483647 < (n1 : Int)) (hn2 : ¬ 2147483647 < (n2 : Int)) (h0 : ¬ m < 1) (h1 : ¬ 12 < m) (h2 : ¬ (n1 : Int) ≠ m) (h3 : ¬ (n2 : Int) ≠ m) (h4 : ¬ t < 1) (h5 : 1152921504606846976 < t) : Calls Tryd.prog 3 #[.int .i64 m, .slice A1 n1 cap1, .slice A2 n2 cap2, .int .i64 t] w (Yes w) := by
  have h7 := all_any m t n1 cap1 A1 zs te ve w hE hA hzl
  have HE := Lib.hid (And.intro hE (And.intro hA hB))
  clear hE hA hB hzl
  go_enter Tryd.func3, Tryd.ntmps3
  go_wp2_with fail
  refine h7.mono ?_
  rintro e w1 ⟨rfl, hb⟩
  have h7b := all_any m t n2 cap2 A2 ys te ve w1 ((hb.cell (p := ⟨1, 0, none⟩) (World.block_lt_of_cell? _ _ HE.out.1)).trans HE.out.1) (HE.out.2.2.below hb (Nat.le_refl _)) hyl
  have HB := Lib.hid hb
  clear hb h7 hyl
  go_wp2_with fail
  refine h7b.mono ?_
  rintro e w2 ⟨rfl, hb⟩
  have HB2 := Lib.hid (HB.out.trans (hb.mono HB.out.size))
  clear hb h7b HB
  have h8 := awake_any te ve w2 ((HB2.out.cell (p := ⟨1, 0, none⟩) (World.block_lt_of_cell? _ _ HE.out.1)).trans HE.out.1)
  go_wp2_with fail
  refine h8.mono ?_
  rintro e w3 ⟨rfl, hb⟩
  have HB3 := Lib.hid hb
  clear hb h8
  go_wp2_with fail
  go_ret
  exact ⟨rfl, HB2.out.trans (HB3.out.mono HB2.out.size)⟩
theorem set_lo {w : World} {O : Nat} {t : TypeId} {a0 a1 a2 a3 a4 a5 a6 a7 a8 a9 a10 a11 : Value} (h : w.heap[O]? = some (.cells #[a0, a1, a2, a3, a4, a5, a6, a7, a8, a9, a10, a11] t (0, 0))) (v0 v1 v2 v3 v4 v5 : Value) :
    ((((((w.setCell ⟨O, 0, none⟩ v0).setCell ⟨O, 1, none⟩ v1).setCell ⟨O, 2, none⟩ v2).setCell ⟨O, 3, none⟩ v3).setCell ⟨O, 4, none⟩ v4).setCell ⟨O, 5, none⟩ v5).heap[O]? = some (.cells #[v0, v1, v2, v3, v4, v5, a6, a7, a8, a9, a10, a11] t (0, 0)) ∧ But (fun j => j = O) w ((((((w.setCell ⟨O, 0, none⟩ v0).setCell ⟨O, 1, none⟩ v1).setCell ⟨O, 2, none⟩ v2).setCell ⟨O, 3, none⟩ v3).setCell ⟨O, 4, none⟩ v4).setCell ⟨O, 5, none⟩ v5) := by
  have h0 : (w.setCell ⟨O, 0, none⟩ v0).heap[O]? = some (.cells #[v0, a1, a2, a3, a4, a5, a6, a7, a8, a9, a10, a11] t (0, 0)) := K.heap_setCell_at h v0
  have h1 : ((w.setCell ⟨O, 0, none⟩ v0).setCell ⟨O, 1, none⟩ v1).heap[O]? = some (.cells #[v0, v1, a2, a3, a4, a5, a6, a7, a8, a9, a10, a11] t (0, 0)) := K.heap_setCell_at h0 v1
  have h2 : (((w.setCell ⟨O, 0, none⟩ v0).setCell ⟨O, 1, none⟩ v1).setCell ⟨O, 2, none⟩ v2).heap[O]? = some (.cells #[v0, v1, v2, a3, a4, a5, a6, a7, a8, a9, a10, a11] t (0, 0)) := K.heap_setCell_at h1 v2
  have h3 : ((((w.setCell ⟨O, 0, none⟩ v0).setCell ⟨O, 1, none⟩ v1).setCell ⟨O, 2, none⟩ v2).setCell ⟨O, 3, none⟩ v3).heap[O]? = some (.cells #[v0, v1, v2, v3, a4, a5, a6, a7, a8, a9, a10, a11] t (0, 0)) := K.heap_setCell_at h2 v3
  have h4 : (((((w.setCell ⟨O, 0, none⟩ v0).setCell ⟨O, 1, none⟩ v1).setCell ⟨O, 2, none⟩ v2).setCell ⟨O, 3, none⟩ v3).setCell ⟨O, 4, none⟩ v4).heap[O]? = some (.cells #[v0, v1, v2, v3, v4, a5, a6, a7, a8, a9, a10, a11] t (0, 0)) := K.heap_setCell_at h3 v4
  have h5 : ((((((w.setCell ⟨O, 0, none⟩ v0).setCell ⟨O, 1, none⟩ v1).setCell ⟨O, 2, none⟩ v2).setCell ⟨O, 3, none⟩ v3).setCell ⟨O, 4, none⟩ v4).setCell ⟨O, 5, none⟩ v5).heap[O]? = some (.cells #[v0, v1, v2, v3, v4, v5, a6, a7, a8, a9, a10, a11] t (0, 0)) := K.heap_setCell_at h4 v5
  exact ⟨h5, (But.setCell (But.setCell (But.setCell (But.setCell (But.setCell (But.setCell ((But.refl (fun j => j = O) w : But (fun j => j = O) w w)) ⟨O, 0, none⟩ v0 (fun _ => rfl)) ⟨O, 1, none⟩ v1 (fun _ => rfl)) ⟨O, 2, none⟩ v2 (fun _ => rfl)) ⟨O, 3, none⟩ v3 (fun _ => rfl)) ⟨O, 4, none⟩ v4 (fun _ => rfl)) ⟨O, 5, none⟩ v5 (fun _ => rfl))⟩
theorem set_hi {w : World} {O : Nat} {t : TypeId} {a0 a1 a2 a3 a4 a5 a6 a7 a8 a9 a10 a11 : Value} (h : w.heap[O]? = some (.cells #[a0, a1, a2, a3, a4, a5, a6, a7, a8, a9, a10, a11] t (0, 0))) (v0 v1 v2 v3 v4 v5 : Value) :
    ((((((w.setCell ⟨O, 6, none⟩ v0).setCell ⟨O, 7, none⟩ v1).setCell ⟨O, 8, none⟩ v2).setCell ⟨O, 9, none⟩ v3).setCell ⟨O, 10, none⟩ v4).setCell ⟨O, 11, none⟩ v5).heap[O]? = some (.cells #[a0, a1, a2, a3, a4, a5, v0, v1, v2, v3, v4, v5] t (0, 0)) ∧ But (fun j => j = O) w ((((((w.setCell ⟨O, 6, none⟩ v0).setCell ⟨O, 7, none⟩ v1).setCell ⟨O, 8, none⟩ v2).setCell ⟨O, 9, none⟩ v3).setCell ⟨O, 10, none⟩ v4).setCell ⟨O, 11, none⟩ v5) := by
  have h0 : (w.setCell ⟨O, 6, none⟩ v0).heap[O]? = some (.cells #[a0, a1, a2, a3, a4, a5, v0, a7, a8, a9, a10, a11] t (0, 0)) := K.heap_setCell_at h v0
  have h1 : ((w.setCell ⟨O, 6, none⟩ v0).setCell ⟨O, 7, none⟩ v1).heap[O]? = some (.cells #[a0, a1, a2, a3, a4, a5, v0, v1, a8, a9, a10, a11] t (0, 0)) := K.heap_setCell_at h0 v1
  have h2 : (((w.setCell ⟨O, 6, none⟩ v0).setCell ⟨O, 7, none⟩ v1).setCell ⟨O, 8, none⟩ v2).heap[O]? = some (.cells #[a0, a1, a2, a3, a4, a5, v0, v1, v2, a9, a10, a11] t (0, 0)) := K.heap_setCell_at h1 v2
  have h3 : ((((w.setCell ⟨O, 6, none⟩ v0).setCell ⟨O, 7, none⟩ v1).setCell ⟨O, 8, none⟩ v2).setCell ⟨O, 9, none⟩ v3).heap[O]? = some (.cells #[a0, a1, a2, a3, a4, a5, v0, v1, v2, v3, a10, a11] t (0, 0)) := K.heap_setCell_at h2 v3
  have h4 : (((((w.setCell ⟨O, 6, none⟩ v0).setCell ⟨O, 7, none⟩ v1).setCell ⟨O, 8, none⟩ v2).setCell ⟨O, 9, none⟩ v3).setCell ⟨O, 10, none⟩ v4).heap[O]? = some (.cells #[a0, a1, a2, a3, a4, a5, v0, v1, v2, v3, v4, a11] t (0, 0)) := K.heap_setCell_at h3 v4
  have h5 : ((((((w.setCell ⟨O, 6, none⟩ v0).setCell ⟨O, 7, none⟩ v1).setCell ⟨O, 8, none⟩ v2).setCell ⟨O, 9, none⟩ v3).setCell ⟨O, 10, none⟩ v4).setCell ⟨O, 11, none⟩ v5).heap[O]? = some (.cells #[a0, a1, a2, a3, a4, a5, v0, v1, v2, v3, v4, v5] t (0, 0)) := K.heap_setCell_at h4 v5
  exact ⟨h5, (But.setCell (But.setCell (But.setCell (But.setCell (But.setCell (But.setCell ((But.refl (fun j => j = O) w : But (fun j => j = O) w w)) ⟨O, 6, none⟩ v0 (fun _ => rfl)) ⟨O, 7, none⟩ v1 (fun _ => rfl)) ⟨O, 8, none⟩ v2 (fun _ => rfl)) ⟨O, 9, none⟩ v3 (fun _ => rfl)) ⟨O, 10, none⟩ v4 (fun _ => rfl)) ⟨O, 11, none⟩ v5 (fun _ => rfl))⟩
def f2 (j : Nat) : Nat := 2 * j + 3
theorem grows2 : Grows f2 := ⟨fun i => by unfold f2; omega, fun i => by unfold f2; omega, fun i hi => by unfold f2; omega⟩
/-- the last state -/
theorem last_ord (t : Int) {n m : Nat} (hm : 2 * n + 1 = m) (hn : n ≤ 12) (h1 : 1 ≤ n) {q : Nat → Nat} (ho : Ord n q n) : orK f2 t n q (2 * n) = ⟨n, m, n, m, []⟩ := by
  subst hm
  rw [or_last grows2 t hn h1 ho]
  have : f2 (n - 1) = 2 * n + 1 := by unfold f2; omega
  rw [this]
/-- out, behind r rounds -/
def outC (n m : Nat) (r : Nat) (B1 : Option Addr) (c1 : Nat) (B2 : Option Addr) (c2 : Nat) : Array Value :=
  if r = 0 then #[.int .u64 0, .int .u64 0, .int .u64 0, .int .u64 0, .slice none 0 0, .slice none 0 0, .int .u64 0, .int .u64 0, .int .u64 0, .int .u64 0, .slice none 0 0, .slice none 0 0] else if r = 1 then #[.int .u64 (n : Int), .int .u64 (m : Int), .int .u64 (n : Int), .int .u64 (m : Int), .slice B1 0 c1, .slice none 0 0, .int .u64 0, .int .u64 0, .int .u64 0, .int .u64 0, .slice none 0 0, .slice none 0 0] else #[.int .u64 (n : Int), .int .u64 (m : Int), .int .u64 (n : Int), .int .u64 (m : Int), .slice B1 0 c1, .slice none 0 0, .int .u64 (n : Int), .int .u64 (m : Int), .int .u64 (n : Int), .int .u64 (m : Int), .slice B2 0 c2, .slice none 0 0]
/-- the two orders, and out -/
structure OutRel (w : World) (O S n m : Nat) (a b : Value) (r : Nat) (wr : World) : Prop where
  bl : Below w.heap.size w wr
  hO : w.heap.size ≤ O
  hS : w.heap.size ≤ S
  ne : O ≠ S
  ord : wr.heap[S]? = some (.cells #[a, b] 22 (0, 0))
  out : ∃ B1 c1 B2 c2, wr.heap[O]? = some (.cells (outC n m r B1 c1 B2 c2) 32 (0, 0))

theorem OutRel.next {w wo w4 V : World} {O S n m r : Nat} {a b : Value} (h : OutRel w O S n m a b r wo) (hM : Below wo.heap.size wo w4) (hb : But (fun j => j = O) w4 V) (hO : ∃ B1 c1 B2 c2, V.heap[O]? = some (.cells (outC n m (r + 1) B1 c1 B2 c2) 32 (0, 0))) : OutRel w O S n m a b (r + 1) V where
  bl := But.below (h.bl.trans (hM.mono h.bl.size)) hb (fun k hk => by rw [hk]; exact h.hO) (by have := h.bl.size; have := hM.size; omega)
  hO := h.hO
  hS := h.hS
  ne := h.ne
  ord := (hb.block S (Nat.lt_of_lt_of_le (lt_of_heap h.ord) hM.size) (fun e => h.ne e.symm)).trans ((hM.block S (lt_of_heap h.ord)).trans h.ord)
  out := hO

set_option maxHeartbeats 8000000 in
set_option maxRecDepth 100000 in
theorem main_any (n cap1 cap2 : Nat) (A1 A2 : Option Addr) (zs ys : List Int) (t : Int) (te : TypeId) (ve : Value) (w : World) (hE : w.cell? ⟨1, 0, none⟩ = some (.iface te ve)) (hA : Lies w A1 n (nums .i64 zs)) (hB : Lies w A2 n (nums .i64 ys)) (hzl : zs.length = n) (hyl : ys.length = n)
    (h0 : ¬ (n : Int) < 1) (h1 : ¬ 12 < (n : Int)) (h4 : ¬ t < 1) (h5 : ¬ 1152921504606846976 < t) :
    Calls Tryd.prog 3 #[.int .i64 (n : Int), .slice A1 n cap1, .slice A2 n cap2, .int .i64 t] w (Yes w) := by
  have hn1 : ¬ 2147483647 < (n : Int) := by omega
  have HZ := Lib.hid (And.intro hzl hyl)
  obtain ⟨m, hm⟩ : ∃ m, 2 * n + 1 = m := ⟨_, rfl⟩
  have HM2 := Lib.hid hm
  clear hm
  have h7 := all_any (n : Int) t n cap1 A1 zs te ve w hE hA hzl
  have HE := Lib.hid (And.intro hE (And.intro hA hB))
  clear hE hA hB hzl
  go_enter Tryd.func3, Tryd.ntmps3
  go_wp2_with fail
  refine h7.mono ?_
  rintro e w1 ⟨rfl, hb⟩
  have h7b := all_any (n : Int) t n cap2 A2 ys te ve w1 ((hb.cell (p := ⟨1, 0, none⟩) (World.block_lt_of_cell? _ _ HE.out.1)).trans HE.out.1) (HE.out.2.2.below hb (Nat.le_refl _)) hyl
  have HB := Lib.hid hb
  clear hb h7 hyl
  go_wp2_with fail
  refine h7b.mono ?_
  rintro e w2 ⟨rfl, hb⟩
  have HB2 := Lib.hid (HB.out.trans (hb.mono HB.out.size))
  clear hb h7b HB
  obtain ⟨i37, hi, hz, hs, hy⟩ := info37
  have HI := Lib.hid (And.intro hi (And.intro hz (And.intro hs hy)))
  obtain ⟨i4, hi4, hz4, hs4, hy4⟩ := info4
  have HI4 := Lib.hid (And.intro hi4 (And.intro hz4 (And.intro hs4 hy4)))
  clear hi hz hs hy hi4 hz4 hs4 hy4
  go_wp2_with fail
  have hrel0 : OutRel w w2.heap.size (w2.heap.size + 1) n m (.slice A1 n cap1) (.slice A2 n cap2) 0 ((w2.alloc (.cells #[.int .u64 0, .int .u64 0, .int .u64 0, .int .u64 0, .slice none 0 0, .slice none 0 0, .int .u64 0, .int .u64 0, .int .u64 0, .int .u64 0, .slice none 0 0, .slice none 0 0] 32)).alloc (.cells #[.slice A1 n cap1, .slice A2 n cap2] 22)) := by
    have hs := HB2.out.size
    have e1 : (w2.alloc (.cells #[.int .u64 0, .int .u64 0, .int .u64 0, .int .u64 0, .slice none 0 0, .slice none 0 0, .int .u64 0, .int .u64 0, .int .u64 0, .int .u64 0, .slice none 0 0, .slice none 0 0] 32)).heap.size = w2.heap.size + 1 := by simp
    have e2 := K.heap_alloc_at (w2.alloc (.cells #[.int .u64 0, .int .u64 0, .int .u64 0, .int .u64 0, .slice none 0 0, .slice none 0 0, .int .u64 0, .int .u64 0, .int .u64 0, .int .u64 0, .slice none 0 0, .slice none 0 0] 32)) (.cells #[.slice A1 n cap1, .slice A2 n cap2] 22)
    rw [e1] at e2
    exact ⟨(HB2.out.alloc hs _).alloc (by rw [e1]; omega) _, hs, by omega, by omega, e2, none, 0, none, 0, (Below.heap_alloc _ _ _ (by rw [e1]; omega)).trans (K.heap_alloc_at w2 _)⟩
  generalize ((w2.alloc (.cells #[.int .u64 0, .int .u64 0, .int .u64 0, .int .u64 0, .slice none 0 0, .slice none 0 0, .int .u64 0, .int .u64 0, .int .u64 0, .int .u64 0, .slice none 0 0, .slice none 0 0] 32)).alloc (.cells #[.slice A1 n cap1, .slice A2 n cap2] 22)) = W at hrel0 ⊢
  have HR0 := Lib.hid hrel0
  clear hrel0 HB2
  generalize w2.heap.size = O at HR0 ⊢
  have HLE := Lib.hid (And.intro h0 (And.intro h1 (And.intro h4 h5)))
  go_loopw [70] (fun r wr => ∃ j : Nat, j ≤ 2 ∧ r = .int .i64 (j : Int) ∧ Hid (OutRel w O (O + 1) n m (.slice A1 n cap1) (.slice A2 n cap2) j wr)) (fun r _ => 2 - (intOf r).toNat)
  case atStart => exact ⟨0, by omega, rfl, HR0⟩
  case round =>
    obtain ⟨r, hr, rfl, HR⟩ := hrel
    generalize wr = wo at HR ⊢
    have hEo := (HR.out.bl.cell (p := ⟨1, 0, none⟩) (World.block_lt_of_cell? _ _ HE.out.1)).trans HE.out.1
    have HEO := Lib.hid hEo
    clear hEo
    by_cases hlt : r < 2
    · obtain ⟨A, cap, xs, hcell, hL, hzl⟩ : ∃ A cap xs, wo.cell? ⟨O + 1, r, none⟩ = some (.slice A n cap) ∧ Lies wo A n (nums .i64 xs) ∧ xs.length = n := by
        have hl1 := HE.out.2.1.below HR.out.bl (Nat.le_refl _)
        have hl2 := HE.out.2.2.below HR.out.bl (Nat.le_refl _)
        have h : r = 0 ∨ r = 1 := by omega
        rcases h with rfl | rfl
        · exact ⟨A1, cap1, zs, cell_of HR.out.ord rfl, hl1, HZ.out.1⟩
        · exact ⟨A2, cap2, ys, cell_of HR.out.ord rfl, hl2, HZ.out.2⟩
      have HL := Lib.hid (And.intro hL (And.intro hzl hlt))
      have hr0 : (0 : Int) ≤ (r : Int) := by omega
      have hr1 : (r : Int) < 2 := by omega
      clear hL hzl hlt hr
      have hi4 := HI4.out.1
      have hz4 := HI4.out.2.1
      have hs4 := HI4.out.2.2.1
      have hy4 := HI4.out.2.2.2
      go_wp2_with (at_make; refine wpList_make_full _ rfl _ _ 35 rfl wo.heap.size 4 i4 (.bool false) 1 Tryd.underlying35 hi4 hz4 hs4 .i64 .i64 _ _ n rfl rfl rfl rfl (by rw [hy4]; omega) (by unfold maxLen; omega) (by omega) ?_; intro w3 hown hgr; have HM := Lib.hid (And.intro (row_seen hown) ((Below.refl _ _).grown hgr (Nat.le_refl _) (fun k hk => by cases hk))); clear hown hgr)
      clear hi4 hz4 hs4 hy4 hcell
      generalize hMM : wo.heap.size = M at HM ⊢
      have HMM := Lib.hid hMM
      clear hMM
      go_loopw [12, 14] (fun v i wr => ∃ j : Nat, j ≤ n ∧ i = .int .i64 (j : Int) ∧ Hid (RowAt wo wr v j (orD f2 t n (qo xs)) M n (fun _ => false))) (fun _ i _ => n - (intOf i).toNat)
      case atStart => exact ⟨0, by omega, rfl, Lib.hid ⟨World.ownsRow_nil _ _ _ _, by rw [HMM.out]; exact HM.out.2, HM.out.1, HMM.out.symm⟩⟩
      case round =>
        obtain ⟨j, hj, rfl, HQ⟩ := hrel
        by_cases hlt : j < n
        · have hj0 : (0 : Int) ≤ (j : Int) := by omega
          have hj1 : (j : Int) < (n : Int) := by omega
          have hj2 : (j : Int) ≤ 12 := by omega
          have hnw : (wr.alloc (.cells #[.int .i64 0, .int .u64 ((j : Int) + 1), .int .u64 (2 * (j : Int) + 3), .int .u64 1, .int .i64 t, .int .u64 0, .int .u64 0, .int .u64 0, .int .u64 0, .slice none 0 0, .slice none 0 0] 37)).heap[wr.heap.size]? = _ := K.heap_alloc_at _ _
          have HNW := Lib.hid hnw
          have HRA := Lib.hid (HQ.out.1.alloc (.cells #[.int .i64 0, .int .u64 ((j : Int) + 1), .int .u64 (2 * (j : Int) + 3), .int .u64 1, .int .i64 t, .int .u64 0, .int .u64 0, .int .u64 0, .int .u64 0, .slice none 0 0, .slice none 0 0] 37))
          clear hnw
          go_wp2_with (at_builtin; refine wpList_append_lies _ rfl _ _ _ rfl (wo.heap.size + 1) 37 i37 (.agg #[.int .i64 0, .int .u64 0, .int .u64 0, .int .u64 0, .int .i64 0, .int .u64 0, .int .u64 0, .int .u64 0, .int .u64 0, .slice none 0 0, .slice none 0 0]) 11 120 Tryd.underlying34 HI.out.1 HI.out.2.1 HI.out.2.2.1 HI.out.2.2.2 rfl (by omega) u12 j (ddCells (orD f2 t n (qo xs)) j) rfl HRA.out ⟨wr.heap.size, 0, none⟩ 1 1 [.int .i64 0, .int .u64 ((j : Int) + 1), .int .u64 (2 * (j : Int) + 3), .int .u64 1, .int .i64 t, .int .u64 0, .int .u64 0, .int .u64 0, .int .u64 0, .slice none 0 0, .slice none 0 0] rfl rfl (World.news_of_block HNW.out) (by simp [Value.oneCell']) (by omega) (by unfold maxLen; omega) (by omega) (by have := lt_of_heap HQ.out.2.2.1; have := HQ.out.2.2.2; simp; omega) _ rfl ?_; intro g3 cp3 w4 hown3 hgrow3 hat3 hlt3; have HF3 := Lib.hid (And.intro hown3 hgrow3); clear hown3 hgrow3 hat3 hlt3)
          have HFIN := Lib.hid (consumerAll.row_step (cs := #[.int .i64 0, .int .u64 ((j : Int) + 1), .int .u64 (2 * (j : Int) + 3), .int .u64 1, .int .i64 t, .int .u64 0, .int .u64 0, .int .u64 0, .int .u64 0, .slice none 0 0, .slice none 0 0]) HQ.out (by rw [orD_step _ _ _ _ _ hlt]; simp [Dd.row, dlvRow, f2]) HF3.out.1 HF3.out.2)
          go_roundw
          case rel => exact ⟨j + 1, by omega, by go_num, HFIN⟩
          case measure => simp [intOf]; omega
        · obtain rfl : j = n := by omega
          have HR1 := HQ
          clear hlt hj HM
          go_wp2_with fail
          go_loopw [12, 15, 16] (fun v i _ wr => ∃ c : Nat, c ≤ j ∧ i = .int .i64 (c : Int) ∧ Hid (Ord j (qo xs) c ∧ RowAt wo wr v (j + c) (orD f2 t j (qo xs)) M j (wasSeen xs c))) (fun _ i _ _ => j - (intOf i).toNat)
          case atStart => exact ⟨0, by omega, rfl, Lib.hid ⟨⟨fun l hl => by omega, fun l m h1 h2 => by omega⟩, HR1.out⟩⟩
          case round =>
            obtain ⟨c, hc, rfl, HQ⟩ := hrel
            have hE' := (HQ.out.2.2.1.cell (p := ⟨1, 0, none⟩) (World.block_lt_of_cell? _ _ HEO.out)).trans HEO.out
            have h8 := awake_any te ve wr hE'
            have HW := Lib.hid (HR.out.bl.trans (HQ.out.2.2.1.mono HR.out.bl.size))
            clear hE'
            by_cases hlt : c < j
            · obtain ⟨ab, ao, rfl, hab, hcs⟩ := HL.out.1 (by omega)
              have hz : wr.cell? ⟨ab, ao + c, none⟩ = some (.int .i64 (xs.getD c 0)) := (HQ.out.2.2.1.cell (p := ⟨ab, ao + c, none⟩) hab).trans (hcs c hlt)
              have hc0 : (0 : Int) ≤ (c : Int) := by omega
              have hc1 : (c : Int) < (j : Int) := by omega
              obtain ⟨z, hze⟩ : ∃ z, xs.getD c 0 = z := ⟨_, rfl⟩
              rw [hze] at hz
              have HZ' := Lib.hid hze
              have HC := Lib.hid hlt
              clear hcs hze hab hlt
              by_cases hz0 : z < 0
              · go_wp2_with fail
                refine h8.mono ?_
                rintro e w1 ⟨rfl, hb⟩
                have HB := Lib.hid hb
                clear hb h8
                go_wp2_with fail
                go_ret
                exact ⟨rfl, HW.out.trans (Below.mono HB.out HW.out.size)⟩
              · by_cases hz1 : (j : Int) ≤ z
                · go_wp2_with fail
                  refine h8.mono ?_
                  rintro e w1 ⟨rfl, hb⟩
                  have HB := Lib.hid hb
                  clear hb h8
                  go_wp2_with fail
                  go_ret
                  exact ⟨rfl, HW.out.trans (Below.mono HB.out HW.out.size)⟩
                · obtain ⟨z, rfl⟩ : ∃ q : Nat, z = (q : Int) := ⟨z.toNat, by omega⟩
                  have hzj : z < j := by omega
                  have hqo : qo xs c = z := by unfold qo; rw [HZ'.out]; rfl
                  have hsc := seen_at HQ.out.2.2.2.1 hzj
                  have hz2 : (0 : Int) ≤ (z : Int) := by omega
                  have hz3 : (z : Int) < (j : Int) := by omega
                  have hz4 : (z : Int) ≤ 12 := by omega
                  cases hb : wasSeen xs c z with
                  | true =>
                    rw [hb] at hsc
                    clear hb
                    go_wp2_with fail
                    refine h8.mono ?_
                    rintro e w1 ⟨rfl, hb⟩
                    have HB := Lib.hid hb
                    clear hb h8
                    go_wp2_with fail
                    go_ret
                    exact ⟨rfl, HW.out.trans (Below.mono HB.out HW.out.size)⟩
                  | false =>
                    rw [hb] at hsc
                    have hfz : wr.frozen? ⟨M, z, none⟩ = false := thawed HQ.out.2.2.2.1 z
                    have hrow := row_seen_set (z := z) HQ.out.2
                    have hsz : (wr.setCell ⟨M, z, none⟩ (.bool true)).heap.size = wr.heap.size := by simp
                    have hord := ord_step HQ.out.1 (by rw [hqo]; exact hzj) (by rw [hqo]; exact hb)
                    have hnw : ((wr.setCell ⟨M, z, none⟩ (.bool true)).alloc (.cells #[.int .i64 1, .int .u64 ((z : Int) + 1), .int .u64 (2 * (z : Int) + 3), .int .u64 0, .int .i64 0, .int .u64 0, .int .u64 0, .int .u64 0, .int .u64 0, .slice none 0 0, .slice none 0 0] 37)).heap[wr.heap.size]? = some (.cells #[.int .i64 1, .int .u64 ((z : Int) + 1), .int .u64 (2 * (z : Int) + 3), .int .u64 0, .int .i64 0, .int .u64 0, .int .u64 0, .int .u64 0, .int .u64 0, .slice none 0 0, .slice none 0 0] 37 (0, 0)) := by
                      have := K.heap_alloc_at (wr.setCell ⟨M, z, none⟩ (.bool true)) (.cells #[.int .i64 1, .int .u64 ((z : Int) + 1), .int .u64 (2 * (z : Int) + 3), .int .u64 0, .int .i64 0, .int .u64 0, .int .u64 0, .int .u64 0, .int .u64 0, .slice none 0 0, .slice none 0 0] 37)
                      rwa [hsz] at this
                    have HNW := Lib.hid hnw
                    have HROW := Lib.hid (And.intro hrow (And.intro hord (And.intro hqo (And.intro hzj hsz))))
                    have HRA := Lib.hid (hrow.1.alloc (.cells #[.int .i64 1, .int .u64 ((z : Int) + 1), .int .u64 (2 * (z : Int) + 3), .int .u64 0, .int .i64 0, .int .u64 0, .int .u64 0, .int .u64 0, .int .u64 0, .slice none 0 0, .slice none 0 0] 37))
                    clear hnw hrow hord hb hqo hsz h8
                    go_wp2_with (at_builtin; refine wpList_append_lies _ rfl _ _ _ rfl (wo.heap.size + 1) 37 i37 (.agg #[.int .i64 0, .int .u64 0, .int .u64 0, .int .u64 0, .int .i64 0, .int .u64 0, .int .u64 0, .int .u64 0, .int .u64 0, .slice none 0 0, .slice none 0 0]) 11 120 Tryd.underlying34 HI.out.1 HI.out.2.1 HI.out.2.2.1 HI.out.2.2.2 rfl (by omega) u12 (j + c) (ddCells (orD f2 t j (qo xs)) (j + c)) rfl HRA.out ⟨wr.heap.size, 0, none⟩ 1 1 [.int .i64 1, .int .u64 ((z : Int) + 1), .int .u64 (2 * (z : Int) + 3), .int .u64 0, .int .i64 0, .int .u64 0, .int .u64 0, .int .u64 0, .int .u64 0, .slice none 0 0, .slice none 0 0] rfl rfl (World.news_of_block HNW.out) (by simp [Value.oneCell']) (by omega) (by unfold maxLen; omega) (by omega) (by have q1 := lt_of_heap HROW.out.1.2.2.1; have q2 := HROW.out.1.2.2.2; have q3 := HROW.out.2.2.2.2; rw [q3] at q1; simp; omega) _ rfl ?_; intro g3 cp3 w4 hown3 hgrow3 hat3 hlt3; have HF3 := Lib.hid (And.intro hown3 hgrow3); clear hown3 hgrow3 hat3 hlt3)
                    have hfin : Ord j (qo xs) (c + 1) ∧ RowAt wo w4 (.slice (some ⟨g3, 0, none⟩) (j + c + 1) cp3) (j + (c + 1)) (orD f2 t j (qo xs)) M j (wasSeen xs (c + 1)) := by
                      have e1 : orD f2 t j (qo xs) (j + c) = .ack (z + 1) (f2 z) := by
                        unfold orD
                        rw [if_neg (by omega), show j + c - j = c by omega, HROW.out.2.2.1]
                      have e2 : wasSeen xs (c + 1) = fun q => wasSeen xs c q || decide (z = q) := funext fun q => by rw [wasSeen_step, HROW.out.2.2.1]
                      rw [e2]
                      exact ⟨HROW.out.2.1, consumerAll.row_step (cs := #[.int .i64 1, .int .u64 ((z : Int) + 1), .int .u64 (2 * (z : Int) + 3), .int .u64 0, .int .i64 0, .int .u64 0, .int .u64 0, .int .u64 0, .int .u64 0, .slice none 0 0, .slice none 0 0]) HROW.out.1 (by rw [e1]; simp [Dd.row, ackRow, f2]) HF3.out.1 HF3.out.2⟩
                    have HFIN := Lib.hid hfin
                    clear hfin
                    have hlt := HC.out
                    exact ⟨⟨c + 1, by omega, by go_num, HFIN⟩, by simp [intOf]; omega⟩
            · obtain rfl : c = j := by omega
              clear hlt hc h8
              obtain ⟨g, cp, hue, hcap, _, hgl, _⟩ := own_slice HQ.out.2.1 (by omega)
              subst hue
              have hE2 := (HQ.out.2.2.1.cell (p := ⟨1, 0, none⟩) (World.block_lt_of_cell? _ _ HEO.out)).trans HEO.out
              have h9 := consumer_any (some ⟨g, 0, none⟩) (c + c) cp (orD f2 t c (qo xs)) (orK f2 t c (qo xs)) (fun _ => 0) te ve wr (deeds_of_own HQ.out.2.1) (by omega) (by unfold orK; rw [if_pos (Nat.zero_le _)]; rfl) (fun i hi => or_good grows2 t (by omega) HQ.out.1 (by omega)) (fun i hi => or_does grows2 t (by omega) HQ.out.1 (by omega)) hE2
              clear hE2
              go_wp2_with fail
              refine h9.mono ?_
              rintro e w4 ⟨base, kv, sv, Af, cf, rfl, hk, hs, hWt, hb4, hbase⟩
              obtain ⟨gs, cs, rfl, hcs, _, _, hsc⟩ := own_slice hs (by omega)
              have hB4 : Below M wo w4 := by
                have := HQ.out.2.2.1
                rw [HMM.out] at this
                exact this.trans (hb4.mono (by have := HQ.out.2.2.1.size; have := HMM.out; omega))
              have H4 := Lib.hid (And.intro hsc hB4)
              clear hk hs hWt hb4 hbase hsc h9 hB4
              go_upto_region 28 with fail
              obtain ⟨l, hl⟩ : ∃ l, c + c = l + 1 := ⟨c + c - 1, by omega⟩
              have hlast := last_ord t HM2.out (by omega : c ≤ 12) (by omega) HQ.out.1
              have hld : (Instr.loadAt 31 (.pointer (some ⟨gs, l * 6, none⟩))).run Tryd.prog w4 = .ok (keepV (orK f2 t c (qo xs) (l + 1)) (Af l) (cf l) (.slice none 0 0)) w4 := load_keep _ _ _ (fun q v hv => (by
                have hq : q < 6 := (List.getElem?_eq_some_iff.1 hv).1
                exact H4.out.1 (l * 6 + q) v ((st_get (orK f2 t c (qo xs)) Af cf (c + c) l q (by omega) hq).trans hv)))
              rw [← hl, show c + c = 2 * c by omega, hlast] at hld
              dsimp only [keepV, List.length_nil] at hld
              generalize Af l = B at hld
              generalize cf l = e1 at hld
              have z0 : (0 : Int) ≤ (c : Int) + (c : Int) - 1 := by omega
              have z1 : (c : Int) + (c : Int) - 1 < (c : Int) + (c : Int) := by omega
              have z2 : ((c : Int) + (c : Int) - 1).toNat = l := by omega
              obtain ⟨B1, c1, B2, c2, hO⟩ := HR.out.out
              have hO4 := (H4.out.2.block O (by rw [← HMM.out]; exact lt_of_heap hO)).trans hO
              have hrr : r = 0 ∨ r = 1 := by have := HL.out.2.2; omega
              clear hl hlast hO
              rcases hrr with rfl | rfl
              · have hO5 : w4.heap[O]? = some (.cells #[.int .u64 0, .int .u64 0, .int .u64 0, .int .u64 0, .slice none 0 0, .slice none 0 0, .int .u64 0, .int .u64 0, .int .u64 0, .int .u64 0, .slice none 0 0, .slice none 0 0] 32 (0, 0)) := hO4
                clear hO4
                have q0 : w4.cell? ⟨O, 0, none⟩ = some (.int .u64 0) := cell_of hO5 rfl
                have q1 : w4.cell? ⟨O, 1, none⟩ = some (.int .u64 0) := cell_of hO5 rfl
                have q2 : w4.cell? ⟨O, 2, none⟩ = some (.int .u64 0) := cell_of hO5 rfl
                have q3 : w4.cell? ⟨O, 3, none⟩ = some (.int .u64 0) := cell_of hO5 rfl
                have q4 : w4.cell? ⟨O, 4, none⟩ = some (.slice none 0 0) := cell_of hO5 rfl
                have q5 : w4.cell? ⟨O, 5, none⟩ = some (.slice none 0 0) := cell_of hO5 rfl
                have f0 := thawed hO5 0
                have f1 := thawed hO5 1
                have f2 := thawed hO5 2
                have f3 := thawed hO5 3
                have f4 := thawed hO5 4
                have f5 := thawed hO5 5
                have HO5 := Lib.hid hO5
                clear hO5
                go_upto_region 29 with (refine wpList_load_eq rfl 31 (.tmp 146) rfl _ _ rfl hld ?_)
                obtain ⟨hO6, hbX⟩ := set_lo HO5.out (.int .u64 (c : Int)) (.int .u64 (m : Int)) (.int .u64 (c : Int)) (.int .u64 (m : Int)) (.slice B 0 e1) (.slice none 0 0)
                generalize ((((((w4.setCell ⟨O, 0, none⟩ (.int .u64 (c : Int))).setCell ⟨O, 1, none⟩ (.int .u64 (m : Int))).setCell ⟨O, 2, none⟩ (.int .u64 (c : Int))).setCell ⟨O, 3, none⟩ (.int .u64 (m : Int))).setCell ⟨O, 4, none⟩ (.slice B 0 e1)).setCell ⟨O, 5, none⟩ (.slice none 0 0)) = V at hO6 hbX ⊢
                have HFIN := Lib.hid (HR.out.next (by rw [HMM.out]; exact H4.out.2) hbX ⟨B, e1, none, 0, hO6⟩)
                clear hO6 hbX hld q0 q1 q2 q3 q4 q5 f0 f1 f2 f3 f4 f5
                go_wp2_with fail
                exact ⟨⟨1, by omega, by go_num, HFIN⟩, by simp [intOf]⟩
              · have hO5 : w4.heap[O]? = some (.cells #[.int .u64 (c : Int), .int .u64 (m : Int), .int .u64 (c : Int), .int .u64 (m : Int), .slice B1 0 c1, .slice none 0 0, .int .u64 0, .int .u64 0, .int .u64 0, .int .u64 0, .slice none 0 0, .slice none 0 0] 32 (0, 0)) := hO4
                clear hO4
                have q0 : w4.cell? ⟨O, 6, none⟩ = some (.int .u64 0) := cell_of hO5 rfl
                have q1 : w4.cell? ⟨O, 7, none⟩ = some (.int .u64 0) := cell_of hO5 rfl
                have q2 : w4.cell? ⟨O, 8, none⟩ = some (.int .u64 0) := cell_of hO5 rfl
                have q3 : w4.cell? ⟨O, 9, none⟩ = some (.int .u64 0) := cell_of hO5 rfl
                have q4 : w4.cell? ⟨O, 10, none⟩ = some (.slice none 0 0) := cell_of hO5 rfl
                have q5 : w4.cell? ⟨O, 11, none⟩ = some (.slice none 0 0) := cell_of hO5 rfl
                have f0 := thawed hO5 6
                have f1 := thawed hO5 7
                have f2 := thawed hO5 8
                have f3 := thawed hO5 9
                have f4 := thawed hO5 10
                have f5 := thawed hO5 11
                have HO5 := Lib.hid hO5
                clear hO5
                go_upto_region 29 with (refine wpList_load_eq rfl 31 (.tmp 146) rfl _ _ rfl hld ?_)
                obtain ⟨hO6, hbX⟩ := set_hi HO5.out (.int .u64 (c : Int)) (.int .u64 (m : Int)) (.int .u64 (c : Int)) (.int .u64 (m : Int)) (.slice B 0 e1) (.slice none 0 0)
                generalize ((((((w4.setCell ⟨O, 6, none⟩ (.int .u64 (c : Int))).setCell ⟨O, 7, none⟩ (.int .u64 (m : Int))).setCell ⟨O, 8, none⟩ (.int .u64 (c : Int))).setCell ⟨O, 9, none⟩ (.int .u64 (m : Int))).setCell ⟨O, 10, none⟩ (.slice B 0 e1)).setCell ⟨O, 11, none⟩ (.slice none 0 0)) = V at hO6 hbX ⊢
                have HFIN := Lib.hid (HR.out.next (by rw [HMM.out]; exact H4.out.2) hbX ⟨B1, c1, B, e1, hO6⟩)
                clear hO6 hbX hld q0 q1 q2 q3 q4 q5 f0 f1 f2 f3 f4 f5
                go_wp2_with fail
                exact ⟨⟨2, by omega, by go_num, HFIN⟩, by simp [intOf]⟩
    · obtain rfl : r = 2 := by omega
      obtain ⟨B1, c1, B2, c2, hO⟩ := HR.out.out
      have hO5 : wo.heap[O]? = some (.cells #[.int .u64 (n : Int), .int .u64 (m : Int), .int .u64 (n : Int), .int .u64 (m : Int), .slice B1 0 c1, .slice none 0 0, .int .u64 (n : Int), .int .u64 (m : Int), .int .u64 (n : Int), .int .u64 (m : Int), .slice B2 0 c2, .slice none 0 0] 32 (0, 0)) := hO
      have q0 : wo.cell? ⟨O, 0, none⟩ = some (.int .u64 (n : Int)) := cell_of hO5 rfl
      have q1 : wo.cell? ⟨O, 1, none⟩ = some (.int .u64 (m : Int)) := cell_of hO5 rfl
      have q2 : wo.cell? ⟨O, 2, none⟩ = some (.int .u64 (n : Int)) := cell_of hO5 rfl
      have q3 : wo.cell? ⟨O, 3, none⟩ = some (.int .u64 (m : Int)) := cell_of hO5 rfl
      have q4 : wo.cell? ⟨O, 4, none⟩ = some (.slice B1 0 c1) := cell_of hO5 rfl
      have q5 : wo.cell? ⟨O, 5, none⟩ = some (.slice none 0 0) := cell_of hO5 rfl
      have q6 : wo.cell? ⟨O, 6, none⟩ = some (.int .u64 (n : Int)) := cell_of hO5 rfl
      have q7 : wo.cell? ⟨O, 7, none⟩ = some (.int .u64 (m : Int)) := cell_of hO5 rfl
      have q8 : wo.cell? ⟨O, 8, none⟩ = some (.int .u64 (n : Int)) := cell_of hO5 rfl
      have q9 : wo.cell? ⟨O, 9, none⟩ = some (.int .u64 (m : Int)) := cell_of hO5 rfl
      have q10 : wo.cell? ⟨O, 10, none⟩ = some (.slice B2 0 c2) := cell_of hO5 rfl
      have q11 : wo.cell? ⟨O, 11, none⟩ = some (.slice none 0 0) := cell_of hO5 rfl
      have h10 := same_yes ⟨n, m, n, m, []⟩ B1 B2 c1 c2 wo (fun h => absurd rfl h) (fun h => absurd rfl h) (by simp)
      dsimp only [keepV, List.length_nil] at h10
      have HO5 := Lib.hid hO5
      clear hO hO5 hlt hr
      go_wp2_with fail
      with_reducible refine h10.mono ?_
      rintro e w5 ⟨rfl, hb⟩
      have o4 : w5.cell? ⟨O, 4, none⟩ = some (.slice B1 0 c1) := (hb.cell (p := ⟨O, 4, none⟩) (lt_of_heap HO5.out)).trans (cell_of HO5.out rfl)
      have h8 := awake_any te ve w5 ((hb.cell (p := ⟨1, 0, none⟩) (World.block_lt_of_cell? _ _ HEO.out)).trans HEO.out)
      have HB5 := Lib.hid (HR.out.bl.trans (hb.mono HR.out.bl.size))
      clear hb h10 q0 q1 q2 q3 q4 q5 q6 q7 q8 q9 q10 q11
      go_wp2_with fail
      refine h8.mono ?_
      rintro e w6 ⟨rfl, hb⟩
      have HB6 := Lib.hid (HB5.out.trans (hb.mono HB5.out.size))
      clear hb h8 o4
      go_wp2_with fail
      go_ret
      exact ⟨rfl, HB6.out⟩
end Go.Proofs.YtchphfdoneckeaaDoor.consumerOrder
