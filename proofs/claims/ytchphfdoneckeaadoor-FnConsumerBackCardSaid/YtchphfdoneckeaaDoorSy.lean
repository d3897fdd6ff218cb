/-
  spec.SameKeep: two states that are the same, what was delivered again with them.
-/
import Derived.Test.YtchphfdoneckeaaDoorIn
namespace Go.Proofs.YtchphfdoneckeaaDoor
open Go.RowKit
open Cs (Wt Kp Ag)
open K (Yes)

set_option maxHeartbeats 2000000 in
set_option maxRecDepth 100000 in
theorem same_all (k : Kp) (ag : List Ag) (A1 A2 B1 B2 : Option Addr) (c1 c2 d1 d2 : Nat) (w : World) (h1 : WAt w A1 k.waits) (h2 : WAt w A2 k.waits) (h3 : AAt w B1 ag) (h4 : AAt w B2 ag) (hl : k.waits.length ≤ 12) (hla : ag.length ≤ 12) :
    Calls Tryd.prog 10 #[keepV k A1 c1 (.slice B1 ag.length d1), keepV k A2 c2 (.slice B2 ag.length d2)] w (Yes w) := by
  obtain ⟨n, hn⟩ : ∃ n, k.waits.length = n := ⟨_, rfl⟩
  obtain ⟨m, hm⟩ : ∃ m, ag.length = m := ⟨_, rfl⟩
  have HN := Lib.hid (And.intro hn hm)
  unfold keepV
  rw [hn] at hl ⊢
  rw [hm] at hla ⊢
  have hb1 : Below w.heap.size w (w.alloc (.cells #[.int .u64 (k.dc : Int), .int .u64 (k.ds : Int), .int .u64 (k.fc : Int), .int .u64 (k.fs : Int), .slice A1 n c1, .slice B1 m d1] 31)) := (Below.refl _ w).alloc (Nat.le_refl _) _
  have hb2 : Below w.heap.size w ((w.alloc (.cells #[.int .u64 (k.dc : Int), .int .u64 (k.ds : Int), .int .u64 (k.fc : Int), .int .u64 (k.fs : Int), .slice A1 n c1, .slice B1 m d1] 31)).alloc (.cells #[.int .u64 (k.dc : Int), .int .u64 (k.ds : Int), .int .u64 (k.fc : Int), .int .u64 (k.fs : Int), .slice A2 n c2, .slice B2 m d2] 31)) := hb1.alloc (by simp) _
  have x1 : ((w.alloc (.cells #[.int .u64 (k.dc : Int), .int .u64 (k.ds : Int), .int .u64 (k.fc : Int), .int .u64 (k.fs : Int), .slice A1 n c1, .slice B1 m d1] 31)).alloc (.cells #[.int .u64 (k.dc : Int), .int .u64 (k.ds : Int), .int .u64 (k.fc : Int), .int .u64 (k.fs : Int), .slice A2 n c2, .slice B2 m d2] 31)).heap[w.heap.size]? = some (.cells #[.int .u64 (k.dc : Int), .int .u64 (k.ds : Int), .int .u64 (k.fc : Int), .int .u64 (k.fs : Int), .slice A1 n c1, .slice B1 m d1] 31 (0, 0)) := (Below.heap_alloc _ _ _ (by simp)).trans (K.heap_alloc_at _ _)
  have x2 : ((w.alloc (.cells #[.int .u64 (k.dc : Int), .int .u64 (k.ds : Int), .int .u64 (k.fc : Int), .int .u64 (k.fs : Int), .slice A1 n c1, .slice B1 m d1] 31)).alloc (.cells #[.int .u64 (k.dc : Int), .int .u64 (k.ds : Int), .int .u64 (k.fc : Int), .int .u64 (k.fs : Int), .slice A2 n c2, .slice B2 m d2] 31)).heap[w.heap.size + 1]? = some (.cells #[.int .u64 (k.dc : Int), .int .u64 (k.ds : Int), .int .u64 (k.fc : Int), .int .u64 (k.fs : Int), .slice A2 n c2, .slice B2 m d2] 31 (0, 0)) := by
    have := K.heap_alloc_at (w.alloc (.cells #[.int .u64 (k.dc : Int), .int .u64 (k.ds : Int), .int .u64 (k.fc : Int), .int .u64 (k.fs : Int), .slice A1 n c1, .slice B1 m d1] 31)) (.cells #[.int .u64 (k.dc : Int), .int .u64 (k.ds : Int), .int .u64 (k.fc : Int), .int .u64 (k.fs : Int), .slice A2 n c2, .slice B2 m d2] 31)
    rwa [show (w.alloc (.cells #[.int .u64 (k.dc : Int), .int .u64 (k.ds : Int), .int .u64 (k.fc : Int), .int .u64 (k.fs : Int), .slice A1 n c1, .slice B1 m d1] 31)).heap.size = w.heap.size + 1 by simp] at this
  have HB := Lib.hid (And.intro hb2 (And.intro x1 (And.intro x2 (And.intro h1 (And.intro h2 (And.intro h3 h4))))))
  clear hb1 hb2 x1 x2 h1 h2 h3 h4 hn hm
  go_enter Tryd.func10, Tryd.ntmps10
  go_wp2_with fail
  obtain ⟨gb, gx1, gx2, gh1, gh2, gh3, gh4⟩ := HB.out
  generalize ((w.alloc (.cells #[.int .u64 (k.dc : Int), .int .u64 (k.ds : Int), .int .u64 (k.fc : Int), .int .u64 (k.fs : Int), .slice A1 n c1, .slice B1 m d1] 31)).alloc (.cells #[.int .u64 (k.dc : Int), .int .u64 (k.ds : Int), .int .u64 (k.fc : Int), .int .u64 (k.fs : Int), .slice A2 n c2, .slice B2 m d2] 31)) = W at gb gx1 gx2 ⊢
  have hbW : But (fun _ => False) w W := But.of gb
  have HW := Lib.hid (And.intro gb (And.intro gx1 (And.intro gx2 (And.intro (gh1.but hbW (fun _ _ h => h)) (And.intro (gh2.but hbW (fun _ _ h => h)) (And.intro (gh3.but hbW (fun _ _ h => h)) (gh4.but hbW (fun _ _ h => h))))))))
  clear gb gx1 gx2 gh1 gh2 gh3 gh4 hbW HB
  go_loopw [5] (fun i wr => ∃ j : Nat, j ≤ n ∧ i = .int .i64 (j : Int) ∧ Hid (But (fun _ => False) W wr)) (fun i _ => n - (intOf i).toNat)
  case atStart => exact ⟨0, by omega, rfl, Lib.hid (But.refl _ W)⟩
  case round =>
    obtain ⟨j, hj, rfl, HR⟩ := hrel
    have y1 := (HR.out.block _ (lt_of_heap HW.out.2.1) (fun h => h)).trans HW.out.2.1
    have y2 := (HR.out.block _ (lt_of_heap HW.out.2.2.1) (fun h => h)).trans HW.out.2.2.1
    have m1 : wr.cell? ⟨w.heap.size, 4, none⟩ = some (.slice A1 n c1) := cell_of y1 rfl
    have m2 : wr.cell? ⟨w.heap.size + 1, 4, none⟩ = some (.slice A2 n c2) := cell_of y2 rfl
    by_cases hlt : j < n
    · have hjl : j < k.waits.length := by rw [HN.out.1]; exact hlt
      obtain ⟨b1, o1, rfl, a0, a1, a2⟩ := (HW.out.2.2.2.1.but HR.out (fun _ _ h => h)).get hjl
      obtain ⟨b2, o2, rfl, e0, e1, e2⟩ := (HW.out.2.2.2.2.1.but HR.out (fun _ _ h => h)).get hjl
      generalize k.waits[j] = x at a0 a1 a2 e0 e1 e2
      have hj0 : (0 : Int) ≤ (j : Int) := by omega
      have hj1 : (j : Int) < (n : Int) := by omega
      have HJ := Lib.hid hlt
      clear hjl hlt y1 y2
      go_wp2_with fail
      go_quiet (fail)
      go_wp2_with fail
      have hlt := HJ.out
      go_roundw
      case rel => exact ⟨j + 1, by omega, by go_num, Lib.hid (HR.out.drewN _)⟩
      case measure => simp [intOf]; omega
    · obtain rfl : j = n := by omega
      have HRW := HR
      clear hlt y1 y2
      go_wp2_with fail
      clear m1 m2
      go_loopw [6] (fun i wr => ∃ q : Nat, q ≤ m ∧ i = .int .i64 (q : Int) ∧ Hid (But (fun _ => False) W wr)) (fun i _ => m - (intOf i).toNat)
      case atStart => exact ⟨0, by omega, rfl, HRW⟩
      case round =>
        obtain ⟨q, hq, rfl, HQ⟩ := hrel
        have y1 := (HQ.out.block _ (lt_of_heap HW.out.2.1) (fun h => h)).trans HW.out.2.1
        have y2 := (HQ.out.block _ (lt_of_heap HW.out.2.2.1) (fun h => h)).trans HW.out.2.2.1
        have m1 : wr.cell? ⟨w.heap.size, 5, none⟩ = some (.slice B1 m d1) := cell_of y1 rfl
        have m2 : wr.cell? ⟨w.heap.size + 1, 5, none⟩ = some (.slice B2 m d2) := cell_of y2 rfl
        by_cases hlt : q < m
        · have hjl : q < ag.length := by rw [HN.out.2]; exact hlt
          obtain ⟨b1, o1, rfl, a0, a1⟩ := (HW.out.2.2.2.2.2.1.but HQ.out (fun _ _ h => h)).get hjl
          obtain ⟨b2, o2, rfl, e0, e1⟩ := (HW.out.2.2.2.2.2.2.but HQ.out (fun _ _ h => h)).get hjl
          generalize ag[q] = x at a0 a1 e0 e1
          have hj0 : (0 : Int) ≤ (q : Int) := by omega
          have hj1 : (q : Int) < (m : Int) := by omega
          have HJ := Lib.hid hlt
          clear hjl hlt y1 y2
          go_wp2_with fail
          go_quiet (fail)
          go_wp2_with fail
          have hlt := HJ.out
          go_roundw
          case rel => exact ⟨q + 1, by omega, by go_num, Lib.hid (HQ.out.drewN _)⟩
          case measure => simp [intOf]; omega
        · obtain rfl : q = m := by omega
          clear hlt y1 y2
          go_wp2_with fail
          go_ret
          exact ⟨rfl, But.below HW.out.1 HQ.out (fun _ h => h.elim) HW.out.1.size⟩
end Go.Proofs.YtchphfdoneckeaaDoor
