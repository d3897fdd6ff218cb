/-
  keep, where nothing waits.
-/
import Derived.Test.YtchphfdoneckeaaDoorKe
namespace Go.Proofs.YtchphfdoneckeaaDoor
open Go.RowKit
open Cs (Wt Kp)

set_option maxHeartbeats 2000000 in
set_option maxRecDepth 100000 in
theorem keep_none (sb : Nat) (k : Kp) (w : World) (hK : KeptAt w sb k (.map none) (.map none)) (hk : k.waits = []) :
    Calls Tryd.prog 19 #[.pointer (some ⟨sb, 0, none⟩)] w (KeepPost k w) := by
  have HK := Lib.hid hK
  have HK0 := Lib.hid hk
  clear hK hk
  go_enter Tryd.func19, Tryd.ntmps19
  go_wp2_with fail
  have hbW : Below w.heap.size w (w.alloc (.cells #[.int .u64 0, .int .u64 0, .int .u64 0, .int .u64 0, .slice none 0 0, .slice none 0 0] 31)) := (Below.refl _ _).alloc (Nat.le_refl _) _
  have hRb : (w.alloc (.cells #[.int .u64 0, .int .u64 0, .int .u64 0, .int .u64 0, .slice none 0 0, .slice none 0 0] 31)).heap[w.heap.size]? = some (.cells #[.int .u64 0, .int .u64 0, .int .u64 0, .int .u64 0, .slice none 0 0, .slice none 0 0] 31 (0, 0)) := K.heap_alloc_at _ _
  have hsW : (w.alloc (.cells #[.int .u64 0, .int .u64 0, .int .u64 0, .int .u64 0, .slice none 0 0, .slice none 0 0] 31)).heap.size = w.heap.size + 1 := by simp
  generalize w.alloc (.cells #[.int .u64 0, .int .u64 0, .int .u64 0, .int .u64 0, .slice none 0 0, .slice none 0 0] 31) = W at hbW hRb hsW ⊢
  have hKW : KeptAt W sb k (.map none) (.map none) := (hbW.block _ (lt_of_heap HK.out)).trans HK.out
  have HW := Lib.hid (And.intro hbW (And.intro hRb (And.intro hKW hsW)))
  have c0 := hKW.c0
  have c1 := hKW.c1
  have c2 := hKW.c2
  have c3 := hKW.c3
  have d0 := past hKW.c0
  have d1 := past hKW.c1
  have d2 := past hKW.c2
  have d3 := past hKW.c3
  clear hbW hRb hKW hsW
  go_region
  have hV : OutAt (W.alloc (.cells #[.int .u64 (k.dc : Int), .int .u64 (k.ds : Int), .int .u64 (k.fc : Int), .int .u64 (k.fs : Int), .slice none 0 0, .slice none 0 0] 31)).drew W.heap.size k (.slice none 0 0) (.slice none 0 0) := K.heap_alloc_at _ _
  have hbV : Below W.heap.size W (W.alloc (.cells #[.int .u64 (k.dc : Int), .int .u64 (k.ds : Int), .int .u64 (k.fc : Int), .int .u64 (k.fs : Int), .slice none 0 0, .slice none 0 0] 31)).drew := Below.drew ((Below.refl _ _).alloc (Nat.le_refl _) _)
  have hsV : (W.alloc (.cells #[.int .u64 (k.dc : Int), .int .u64 (k.ds : Int), .int .u64 (k.fc : Int), .int .u64 (k.fs : Int), .slice none 0 0, .slice none 0 0] 31)).drew.heap.size = w.heap.size + 2 := by
    have := HW.out.2.2.2
    simp; omega
  generalize (W.alloc (.cells #[.int .u64 (k.dc : Int), .int .u64 (k.ds : Int), .int .u64 (k.fc : Int), .int .u64 (k.fs : Int), .slice none 0 0, .slice none 0 0] 31)).drew = V at hV hbV hsV ⊢
  have hKV : KeptAt V sb k (.map none) (.map none) := (hbV.block _ (lt_of_heap HW.out.2.2.1)).trans HW.out.2.2.1
  have hRV : V.heap[w.heap.size]? = some (.cells #[.int .u64 0, .int .u64 0, .int .u64 0, .int .u64 0, .slice none 0 0, .slice none 0 0] 31 (0, 0)) := (hbV.block _ (lt_of_heap HW.out.2.1)).trans HW.out.2.1
  have hbwV : Below w.heap.size w V := HW.out.1.trans (hbV.mono (by rw [HW.out.2.2.2]; omega))
  rw [HW.out.2.2.2] at hV ⊢
  have HV := Lib.hid (And.intro hV (And.intro hKV (And.intro hRV hbwV)))
  have c4 := hKV.c4
  clear hV hbV hKV hRV hbwV c0 c1 c2 c3 d0 d1 d2 d3
  have hrg79 := fun w => run_range_nilMap (P := Tryd.prog) w 79 25 91 Tryd.underlying79
  have hrg80 := fun w => run_range_nilMap (P := Tryd.prog) w 80 25 25 Tryd.underlying80
  have hnx80 : ∀ (w : World) ty, (Instr.next (.pointer (some ⟨w.heap.size, 0, none⟩)) false ty).run Tryd.prog (w.alloc (.mapIter none 0 #[] 0)) = _ := fun w ty => run_next_nilMap w ty 0 0 #[]
  have hnx1 : ∀ ty, (Instr.next (.pointer (some ⟨w.heap.size + 2, 0, none⟩)) false ty).run Tryd.prog (V.alloc (.mapIter none 0 #[] 0)) = .ok (.tuple #[.bool false]) (V.alloc (.mapIter none 0 #[] 0)) := fun ty => by rw [← hsV]; exact hnx80 V ty
  have hnx2 : ∀ ty, (Instr.next (.pointer (some ⟨w.heap.size + 2 + 1, 0, none⟩)) false ty).run Tryd.prog ((V.alloc (.mapIter none 0 #[] 0)).alloc (.mapIter none 0 #[] 0)) = .ok (.tuple #[.bool false]) ((V.alloc (.mapIter none 0 #[] 0)).alloc (.mapIter none 0 #[] 0)) := fun ty => by
    have := hnx80 (V.alloc (.mapIter none 0 #[] 0)) ty
    rw [show (V.alloc (.mapIter none 0 #[] 0)).heap.size = w.heap.size + 2 + 1 by simp [hsV]] at this
    exact this
  have hV1 := HV.out.1
  have p5 := past HV.out.2.1.c5
  have o4 : ((V.alloc (.mapIter none 0 #[] 0)).alloc (.mapIter none 0 #[] 0)).cell? ⟨w.heap.size + 1, 4, none⟩ = some (.slice none 0 0) := past (past (cell_of (i := 4) (v := .slice none 0 0) hV1 rfl) _) _
  clear hV1 hnx80
  go_wp2_with fail
  refine wp_loop_rounds 1 ?_
  rw [rounds_succ]
  go_wp2_with fail
  refine wp_loop_rounds 1 ?_
  rw [rounds_succ]
  go_wp2_with fail
  refine (sort_few none 0 0 (by omega) (.func 32) #[] #[.pointer (some ⟨w.heap.size + 1, 0, none⟩)] _).mono ?_
  rintro e w3 ⟨rfl, os, hw3⟩
  have hb3 : But (fun _ => False) V w3 := by rw [hw3]; exact but_grow (((But.refl _ V).alloc _).alloc _) os
  have hO3 : OutAt w3 (w.heap.size + 1) k (.slice none 0 0) (.slice none 0 0) := (hb3.block _ (lt_of_heap HV.out.1) (fun h => h)).trans HV.out.1
  have hR3 := (hb3.block _ (lt_of_heap HV.out.2.2.1) (fun h => h)).trans HV.out.2.2.1
  have hB3 : Below w.heap.size w w3 := But.below HV.out.2.2.2 hb3 (fun _ h => h.elim) (by omega)
  have o5 : w3.cell? ⟨w.heap.size + 1, 5, none⟩ = some (.slice none 0 0) := cell_of hO3 rfl
  have H3 := Lib.hid (And.intro hO3 (And.intro hR3 hB3))
  clear hO3 hR3 hB3 hb3 o4 hw3 hsV
  go_wp2_with fail
  refine (sort_none29 (.func 33) #[] #[.pointer (some ⟨w.heap.size + 1, 0, none⟩)] w3).mono ?_
  rintro e w4 ⟨rfl, os4, hw4⟩
  have hb4 : But (fun _ => False) w3 w4 := by rw [hw4]; exact but_grow (But.refl _ w3) os4
  have hO4 : OutAt w4 (w.heap.size + 1) k (.slice none 0 0) (.slice none 0 0) := (hb4.block _ (lt_of_heap H3.out.1) (fun h => h)).trans H3.out.1
  have hR4 := (hb4.block _ (lt_of_heap H3.out.2.1) (fun h => h)).trans H3.out.2.1
  have q0 : w4.cell? ⟨w.heap.size + 1, 0, none⟩ = some (.int .u64 (k.dc : Int)) := cell_of hO4 rfl
  have q1 : w4.cell? ⟨w.heap.size + 1, 1, none⟩ = some (.int .u64 (k.ds : Int)) := cell_of hO4 rfl
  have q2 : w4.cell? ⟨w.heap.size + 1, 2, none⟩ = some (.int .u64 (k.fc : Int)) := cell_of hO4 rfl
  have q3 : w4.cell? ⟨w.heap.size + 1, 3, none⟩ = some (.int .u64 (k.fs : Int)) := cell_of hO4 rfl
  have q4 : w4.cell? ⟨w.heap.size + 1, 4, none⟩ = some (.slice none 0 0) := cell_of hO4 rfl
  have q5 : w4.cell? ⟨w.heap.size + 1, 5, none⟩ = some (.slice none 0 0) := cell_of hO4 rfl
  have r0 : w4.cell? ⟨w.heap.size, 0, none⟩ = some (.int .u64 0) := cell_of hR4 rfl
  have r1 : w4.cell? ⟨w.heap.size, 1, none⟩ = some (.int .u64 0) := cell_of hR4 rfl
  have r2 : w4.cell? ⟨w.heap.size, 2, none⟩ = some (.int .u64 0) := cell_of hR4 rfl
  have r3 : w4.cell? ⟨w.heap.size, 3, none⟩ = some (.int .u64 0) := cell_of hR4 rfl
  have r4 : w4.cell? ⟨w.heap.size, 4, none⟩ = some (.slice none 0 0) := cell_of hR4 rfl
  have r5 : w4.cell? ⟨w.heap.size, 5, none⟩ = some (.slice none 0 0) := cell_of hR4 rfl
  have f0 := thawed hR4 0
  have f1 := thawed hR4 1
  have f2 := thawed hR4 2
  have f3 := thawed hR4 3
  have f4 := thawed hR4 4
  have f5 := thawed hR4 5
  have H4 := Lib.hid (And.intro hR4 hb4)
  clear hO4 hR4 hb4 hw4 o5
  go_wp2_with fail
  have hx := ke_fin k none 0 0 (by rw [HK0.out]; rfl) (fun h => absurd HK0.out h) H3.out.2.2 H4.out.2 H4.out.1 (fun a ha => by cases ha)
  exact bodyPost_ret (results_cell_row rfl _ _ w.heap.size 31 _ (0, 0) _ rfl hx.1 Tryd.underlying31 rfl (by kernel_rfl)) rfl hx.2
theorem keep_any (sb n : Nat) (pv : Value) (k : Kp) (w : World) (hK : KeptAt w sb k pv (.map none)) (hP : Pend w pv n k.waits) (hF : Fits k) (hl : k.waits.length ≤ 12) :
    Calls Tryd.prog 19 #[.pointer (some ⟨sb, 0, none⟩)] w (KeepPost k w) := by
  rcases hP with ⟨rfl, h2⟩ | ⟨b, D, rfl, hp⟩
  · exact keep_none sb k w hK h2
  · exact keep_some sb b n D k w hK hp hF hl
end Go.Proofs.YtchphfdoneckeaaDoor
