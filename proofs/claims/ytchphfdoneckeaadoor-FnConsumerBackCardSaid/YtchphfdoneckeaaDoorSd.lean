/-
  spec.SoundKeep: a sound state is told sound (nothing delivered again).
-/
import Derived.Test.YtchphfdoneckeaaDoorSk
namespace Go.Proofs.YtchphfdoneckeaaDoor
open Go.RowKit
open Cs (Wt Kp)
open K (Yes)

theorem up_get {l : List Wt} (h : Cs.Up l) {i : Nat} (hi : i + 1 < l.length) : l[i].s < l[i + 1].s ∧ l[i].c < l[i + 1].c := List.pairwise_iff_getElem.1 h i (i + 1) (by omega) hi (by omega)
set_option maxHeartbeats 2000000 in
set_option maxRecDepth 100000 in
theorem sound_yes (k : Kp) (A : Option Addr) (c1 : Nat) (w : World) (hW : WAt w A k.waits) (hl : k.waits.length ≤ 12) (hk : Cs.Sound k) :
    Calls Tryd.prog 12 #[keepV k A c1 (.slice none 0 0)] w (Yes w) := by
  have hb1 : Below w.heap.size w (w.alloc (.cells (boxK k A c1) 31)) := (Below.refl _ w).alloc (Nat.le_refl _) _
  have x1 : (w.alloc (.cells (boxK k A c1) 31)).heap[w.heap.size]? = some (.cells (boxK k A c1) 31 (0, 0)) := K.heap_alloc_at _ _
  have HB := Lib.hid (And.intro hb1 (And.intro x1 hW))
  have HK := Lib.hid hk
  have t1 : (k.fc : Int) ≤ (k.dc : Int) := by have := hk.fc; omega
  have t2 : (k.fs : Int) ≤ (k.ds : Int) := by have := hk.fs; omega
  clear hb1 x1 hW hk
  unfold boxK at HB
  unfold keepV
  obtain ⟨n, hn⟩ : ∃ n, k.waits.length = n := ⟨_, rfl⟩
  have HN := Lib.hid hn
  rw [hn] at hl HB ⊢
  clear hn
  go_enter Tryd.func12, Tryd.ntmps12
  go_wp2_with fail
  obtain ⟨gb, gx1, gh1⟩ := HB.out
  generalize (w.alloc (.cells #[.int .u64 (k.dc : Int), .int .u64 (k.ds : Int), .int .u64 (k.fc : Int), .int .u64 (k.fs : Int), .slice A n c1, .slice none 0 0] 31)) = W at gb gx1 ⊢
  have hbW : But (fun _ => False) w W := But.of gb
  have HW := Lib.hid (And.intro gb (And.intro gx1 (gh1.but hbW (fun _ _ h => h))))
  clear gb gx1 gh1 hbW HB t1 t2
  go_loopw [3, 4] (fun i _ wr => ∃ j : Nat, j ≤ n ∧ i = .int .i64 (j : Int) ∧ Hid (But (fun _ => False) W wr)) (fun i _ _ => n - (intOf i).toNat)
  case atStart => exact ⟨0, by omega, rfl, Lib.hid (But.refl _ W)⟩
  case round =>
    obtain ⟨j, hj, rfl, HR⟩ := hrel
    have y1 := (HR.out.block _ (lt_of_heap HW.out.2.1) (fun h => h)).trans HW.out.2.1
    have m0 : wr.cell? ⟨w.heap.size, 0, none⟩ = some (.int .u64 (k.dc : Int)) := cell_of y1 rfl
    have m1 : wr.cell? ⟨w.heap.size, 1, none⟩ = some (.int .u64 (k.ds : Int)) := cell_of y1 rfl
    have m2 : wr.cell? ⟨w.heap.size, 2, none⟩ = some (.int .u64 (k.fc : Int)) := cell_of y1 rfl
    have m3 : wr.cell? ⟨w.heap.size, 3, none⟩ = some (.int .u64 (k.fs : Int)) := cell_of y1 rfl
    have m4 : wr.cell? ⟨w.heap.size, 4, none⟩ = some (.slice A n c1) := cell_of y1 rfl
    by_cases hlt : j < n
    · have hjl : j < k.waits.length := by rw [HN.out]; exact hlt
      obtain ⟨b1, o1, rfl, a0, a1, a2⟩ := (HW.out.2.2.but HR.out (fun _ _ h => h)).get hjl
      have hx := HK.out.w k.waits[j] (List.getElem_mem hjl)
      obtain ⟨x, hxe⟩ : ∃ x, k.waits[j] = x := ⟨_, rfl⟩
      rw [hxe] at a0 a1 a2 hx
      have g1 : decide (x.s ≤ k.fs) = false := by simp; omega
      have g2 : decide (k.ds < x.s) = false := by simp; omega
      have g3 : decide (x.c ≤ k.fc) = false := by simp; omega
      have g4 : decide (k.dc < x.c) = false := by simp; omega
      have hj0 : (0 : Int) ≤ (j : Int) := by omega
      have hj1 : (j : Int) < (n : Int) := by omega
      have a0' := past a0
      have a1' := past a1
      have a2' := past a2
      have m0' := past m0
      have m1' := past m1
      have m2' := past m2
      have m3' := past m3
      have m4' := past m4
      have HJ := Lib.hid hlt
      have hbA : But (fun _ => False) W (wr.alloc (.cells #[.int .u64 (x.s : Int), .int .u64 (x.c : Int), .int .i64 x.t] 47)) := HR.out.alloc _
      have HBA := Lib.hid hbA
      by_cases hj0' : j = 0
      · have g5 : decide ((0 : Int) < (j : Int)) = false := by simp; omega
        have g6 : decide (0 < j) = false := by simp; omega
        have HJ0 := Lib.hid hj0'
        clear hjl hlt y1 hx hbA hxe hj0'
        go_wp2_with fail
        go_quiet (fail)
        go_wp2_with fail
        have hlt := HJ.out
        exact ⟨⟨j + 1, by omega, by go_num, Lib.hid (HBA.out.drewN _)⟩, by simp [intOf]; omega⟩
      · obtain ⟨i, hji⟩ : ∃ i, j = i + 1 := ⟨j - 1, by omega⟩
        have hil : i < k.waits.length := by omega
        obtain ⟨b1', o1', eA, e0, e1, e2⟩ := (HW.out.2.2.but HR.out (fun _ _ h => h)).get hil
        cases eA
        have hup : k.waits[i].s < x.s ∧ k.waits[i].c < x.c := by
          have hil1 : i + 1 < k.waits.length := by omega
          have h1 := up_get HK.out.up hil1
          have h2 : k.waits[i + 1] = x := by subst hji; exact hxe
          rwa [h2] at h1
        obtain ⟨y, hye⟩ : ∃ y, k.waits[i] = y := ⟨_, rfl⟩
        rw [hye] at e0 e1 hup
        have g5 : decide ((0 : Int) < (j : Int)) = true := by simp; omega
        have g6 : decide (0 < j) = true := by simp; omega
        have g7 : decide (x.s ≤ y.s) = false := by simp; omega
        have g8 : decide (x.c ≤ y.c) = false := by simp; omega
        have z0 : (0 : Int) ≤ (j : Int) - 1 := by omega
        have z1 : (j : Int) - 1 < (n : Int) := by omega
        have z2 : ((j : Int) - 1).toNat = i := by omega
        have e0' := past e0
        have e1' := past e1
        clear hjl hlt y1 hx hbA hxe hj0' e2 hup hye hji hil
        go_wp2_with fail
        go_quiet (fail)
        go_wp2_with fail
        have hlt := HJ.out
        exact ⟨⟨j + 1, by omega, by go_num, Lib.hid (HBA.out.drewN _)⟩, by simp [intOf]; omega⟩
    · obtain rfl : j = n := by omega
      have n1 : wr.cell? ⟨w.heap.size, 5, none⟩ = some (.slice none 0 0) := cell_of y1 rfl
      clear hlt y1
      go_wp2_with fail
      refine wp_loop_rounds 1 ?_
      rw [rounds_succ]
      go_wp2_with fail
      go_ret
      exact ⟨rfl, But.below HW.out.1 HR.out (fun _ h => h.elim) HW.out.1.size⟩
end Go.Proofs.YtchphfdoneckeaaDoor
