/-
  spec.SameKeep: two states that are the same.
-/
import Derived.Test.YtchphfdoneckeaaDoorKn
import Derived.BigQuiet
namespace Go.Proofs.YtchphfdoneckeaaDoor
open Go.RowKit
open Cs (Wt Kp)
open K (Yes)

def boxK (k : Kp) (A : Option Addr) (c : Nat) : Array Value := #[.int .u64 (k.dc : Int), .int .u64 (k.ds : Int), .int .u64 (k.fc : Int), .int .u64 (k.fs : Int), .slice A k.waits.length c, .slice none 0 0]
theorem WAt.get {w : World} {A : Option Addr} {l : List Wt} (h : WAt w A l) {i : Nat} (hi : i < l.length) : ∃ b o, A = some ⟨b, o, none⟩ ∧ w.cell? ⟨b, o + i * 3, none⟩ = some (.int .u64 (l[i].s : Int)) ∧ w.cell? ⟨b, o + i * 3 + 1, none⟩ = some (.int .u64 (l[i].c : Int)) ∧ w.cell? ⟨b, o + i * 3 + 2, none⟩ = some (.int .i64 l[i].t) := by
  obtain ⟨b, o, h1, _, h3⟩ := h (fun e => by rw [e] at hi; simp at hi)
  exact ⟨b, o, h1, h3 i l[i] (List.getElem?_eq_getElem hi)⟩
set_option maxHeartbeats 2000000 in
set_option maxRecDepth 100000 in
theorem same_yes (k : Kp) (A1 A2 : Option Addr) (c1 c2 : Nat) (w : World) (h1 : WAt w A1 k.waits) (h2 : WAt w A2 k.waits) (hl : k.waits.length ≤ 12) :
    Calls Tryd.prog 10 #[keepV k A1 c1 (.slice none 0 0), keepV k A2 c2 (.slice none 0 0)] w (Yes w) := by
  have hb1 : Below w.heap.size w (w.alloc (.cells (boxK k A1 c1) 31)) := (Below.refl _ w).alloc (Nat.le_refl _) _
  have hb2 : Below w.heap.size w ((w.alloc (.cells (boxK k A1 c1) 31)).alloc (.cells (boxK k A2 c2) 31)) := hb1.alloc (by simp) _
  have x1 : ((w.alloc (.cells (boxK k A1 c1) 31)).alloc (.cells (boxK k A2 c2) 31)).heap[w.heap.size]? = some (.cells (boxK k A1 c1) 31 (0, 0)) := (Below.heap_alloc _ _ _ (by simp)).trans (K.heap_alloc_at _ _)
  have x2 : ((w.alloc (.cells (boxK k A1 c1) 31)).alloc (.cells (boxK k A2 c2) 31)).heap[w.heap.size + 1]? = some (.cells (boxK k A2 c2) 31 (0, 0)) := by
    have := K.heap_alloc_at (w.alloc (.cells (boxK k A1 c1) 31)) (.cells (boxK k A2 c2) 31)
    rwa [show (w.alloc (.cells (boxK k A1 c1) 31)).heap.size = w.heap.size + 1 by simp] at this
  have HB := Lib.hid (And.intro hb2 (And.intro x1 (And.intro x2 (And.intro h1 h2))))
  clear hb1 hb2 x1 x2 h1 h2
  unfold boxK at HB
  unfold keepV
  obtain ⟨n, hn⟩ : ∃ n, k.waits.length = n := ⟨_, rfl⟩
  have HN := Lib.hid hn
  rw [hn] at hl HB ⊢
  go_enter Tryd.func10, Tryd.ntmps10
  go_wp2_with fail
  obtain ⟨gb, gx1, gx2, gh1, gh2⟩ := HB.out
  generalize ((w.alloc (.cells #[.int .u64 (k.dc : Int), .int .u64 (k.ds : Int), .int .u64 (k.fc : Int), .int .u64 (k.fs : Int), .slice A1 n c1, .slice none 0 0] 31)).alloc (.cells #[.int .u64 (k.dc : Int), .int .u64 (k.ds : Int), .int .u64 (k.fc : Int), .int .u64 (k.fs : Int), .slice A2 n c2, .slice none 0 0] 31)) = W at gb gx1 gx2 ⊢
  have hbW : But (fun _ => False) w W := But.of gb
  have HW := Lib.hid (And.intro gb (And.intro gx1 (And.intro gx2 (And.intro (gh1.but hbW (fun _ _ h => h)) (gh2.but hbW (fun _ _ h => h))))))
  clear gb gx1 gx2 gh1 gh2 hbW HB
  go_loopw [5] (fun i wr => ∃ j : Nat, j ≤ n ∧ i = .int .i64 (j : Int) ∧ Hid (But (fun _ => False) W wr)) (fun i _ => n - (intOf i).toNat)
  case atStart => exact ⟨0, by omega, rfl, Lib.hid (But.refl _ W)⟩
  case round =>
    obtain ⟨j, hj, rfl, HR⟩ := hrel
    have y1 := (HR.out.block _ (lt_of_heap HW.out.2.1) (fun h => h)).trans HW.out.2.1
    have y2 := (HR.out.block _ (lt_of_heap HW.out.2.2.1) (fun h => h)).trans HW.out.2.2.1
    have m1 : wr.cell? ⟨w.heap.size, 4, none⟩ = some (.slice A1 n c1) := cell_of y1 rfl
    have m2 : wr.cell? ⟨w.heap.size + 1, 4, none⟩ = some (.slice A2 n c2) := cell_of y2 rfl
    by_cases hlt : j < n
    · have hjl : j < k.waits.length := by rw [HN.out]; exact hlt
      obtain ⟨b1, o1, rfl, a0, a1, a2⟩ := (HW.out.2.2.2.1.but HR.out (fun _ _ h => h)).get hjl
      obtain ⟨b2, o2, rfl, e0, e1, e2⟩ := (HW.out.2.2.2.2.but HR.out (fun _ _ h => h)).get hjl
      generalize k.waits[j] = x at a0 a1 a2 e0 e1 e2
      have hj0 : (0 : Int) ≤ (j : Int) := by omega
      have hj1 : (j : Int) < (n : Int) := by omega
      have HJ := Lib.hid hlt
      clear hjl hlt y1 y2
      go_wp2_with fail
      go_quiet (fail)
      go_wp2_with fail
      have hlt := HJ.out
      go_roundw
      case rel => exact ⟨j + 1, by omega, by go_num, Lib.hid (HR.out.drewN _)⟩
      case measure => simp [intOf]; omega
    · obtain rfl : j = n := by omega
      have n1 : wr.cell? ⟨w.heap.size, 5, none⟩ = some (.slice none 0 0) := cell_of y1 rfl
      have n2 : wr.cell? ⟨w.heap.size + 1, 5, none⟩ = some (.slice none 0 0) := cell_of y2 rfl
      clear hlt y1 y2
      go_wp2_with fail
      refine wp_loop_rounds 1 ?_
      rw [rounds_succ]
      go_wp2_with fail
      go_ret
      exact ⟨rfl, But.below HW.out.1 HR.out (fun _ h => h.elim) HW.out.1.size⟩
end Go.Proofs.YtchphfdoneckeaaDoor
