/-
  spec.SoundKeep: what it says yes to is sound.
-/
import Derived.Test.YtchphfdoneckeaaDoorWa
import Derived.Test.YtchphfdoneckeaaDoorIn
import Derived.Deep.QuietTactic
namespace Go.Proofs.YtchphfdoneckeaaDoor
open Go.RowKit
open Cs (Wt Kp Ag)

/-- a state that is sound, what was delivered again with it -/
structure KSound (k : Kp) (ag : List Ag) : Prop where
  snd : Cs.Sound k
  up : Cs.AUp ag
  a : ∀ x ∈ ag, 1 ≤ x.n ∧ ∃ y ∈ k.waits, y.s = x.s
def SoPost (k : Kp) (ag : List Ag) (w : World) (e : Ending) (w' : World) : Prop := ∃ b : Bool, e = .returned (.bool b) ∧ (b = true → KSound k ag) ∧ Below w.heap.size w w'
/-- the first j are in order -/
def So1 (k : Kp) (j : Nat) : Prop := k.fc ≤ k.dc ∧ k.fs ≤ k.ds ∧ ∀ i, i < j → ∀ x, k.waits[i]? = some x → (k.fs < x.s ∧ x.s ≤ k.ds ∧ k.fc < x.c ∧ x.c ≤ k.dc) ∧ ∀ h, i = h + 1 → ∀ y, k.waits[h]? = some y → y.s < x.s ∧ y.c < x.c
def So2 (k : Kp) (ag : List Ag) (j : Nat) : Prop := ∀ i, i < j → ∀ x, ag[i]? = some x → (1 ≤ x.n ∧ ∃ y ∈ k.waits, y.s = x.s) ∧ ∀ h, i = h + 1 → ∀ y, ag[h]? = some y → y.s < x.s
theorem pairs_of_next {α : Type} {R : α → α → Prop} (tr : ∀ a b c, R a b → R b c → R a c) {l : List α} (h : ∀ i x y, l[i]? = some x → l[i + 1]? = some y → R x y) : l.Pairwise R := by
  rw [List.pairwise_iff_getElem]
  have key : ∀ d i (hi : i < l.length) (hj : i + d + 1 < l.length), R l[i] l[i + d + 1] := fun d => by
    induction d with
    | zero => exact fun i hi hj => h i _ _ (List.getElem?_eq_getElem hi) (List.getElem?_eq_getElem hj)
    | succ d ih => exact fun i hi hj => tr _ _ _ (ih i hi (by omega)) (h (i + d + 1) _ _ (List.getElem?_eq_getElem (by omega)) (List.getElem?_eq_getElem hj))
  intro i j hi hj hij
  obtain ⟨d, rfl⟩ : ∃ d, j = i + d + 1 := ⟨j - i - 1, by omega⟩
  exact key d i hi hj
theorem So1.sound {k : Kp} (h : So1 k k.waits.length) : Cs.Sound k := by
  refine ⟨h.1, h.2.1, ?_, fun x hx => ?_⟩
  · refine pairs_of_next (fun a b c h1 h2 => by omega) fun i x y hx hy => ?_
    exact (h.2.2 (i + 1) (List.getElem?_eq_some_iff.1 hy).1 y hy).2 i rfl x hx
  · obtain ⟨i, hi, rfl⟩ := List.mem_iff_getElem.1 hx
    exact (h.2.2 i hi _ (List.getElem?_eq_getElem hi)).1
theorem So2.sound {k : Kp} {ag : List Ag} (h1 : So1 k k.waits.length) (h : So2 k ag ag.length) : KSound k ag := by
  refine ⟨h1.sound, ?_, fun x hx => ?_⟩
  · refine pairs_of_next (fun a b c h1 h2 => by omega) fun i x y hx hy => ?_
    exact (h (i + 1) (List.getElem?_eq_some_iff.1 hy).1 y hy).2 i rfl x hx
  · obtain ⟨i, hi, rfl⟩ := List.mem_iff_getElem.1 hx
    exact (h i hi _ (List.getElem?_eq_getElem hi)).1
theorem So1.next {k : Kp} {j : Nat} {x : Wt} (h : So1 k j) (hx : k.waits[j]? = some x) (h1 : k.fs < x.s ∧ x.s ≤ k.ds ∧ k.fc < x.c ∧ x.c ≤ k.dc) (h2 : ∀ i, j = i + 1 → ∀ y, k.waits[i]? = some y → y.s < x.s ∧ y.c < x.c) : So1 k (j + 1) := by
  refine ⟨h.1, h.2.1, fun i hi x' hx' => ?_⟩
  by_cases e : i = j
  · subst e
    rw [hx] at hx'; cases hx'
    exact ⟨h1, h2⟩
  · exact h.2.2 i (by omega) x' hx'
theorem So2.next {k : Kp} {ag : List Ag} {j : Nat} {x : Ag} (h : So2 k ag j) (hx : ag[j]? = some x) (h1 : 1 ≤ x.n ∧ ∃ y ∈ k.waits, y.s = x.s) (h2 : ∀ i, j = i + 1 → ∀ y, ag[i]? = some y → y.s < x.s) : So2 k ag (j + 1) := by
  intro i hi x' hx'
  by_cases e : i = j
  · subst e
    rw [hx] at hx'; cases hx'
    exact ⟨h1, h2⟩
  · exact h i (by omega) x' hx'
theorem so_no {k : Kp} {ag : List Ag} {w w' : World} (h : Below w.heap.size w w') : SoPost k ag w (.returned (.bool false)) w' := ⟨false, rfl, (fun h => by cases h), h⟩

set_option maxHeartbeats 8000000 in
set_option maxRecDepth 100000 in
theorem sound_any (k : Kp) (ag : List Ag) (A B : Option Addr) (c1 c2 : Nat) (w : World) (hW : WAt w A k.waits) (hB : AAt w B ag) (hl : k.waits.length ≤ 12) (hla : ag.length ≤ 12) :
    Calls Tryd.prog 12 #[keepV k A c1 (.slice B ag.length c2)] w (SoPost k ag w) := by
  obtain ⟨n, hn⟩ : ∃ n, k.waits.length = n := ⟨_, rfl⟩
  obtain ⟨m, hm⟩ : ∃ m, ag.length = m := ⟨_, rfl⟩
  have HN := Lib.hid (And.intro hn hm)
  unfold keepV
  rw [hn] at hl ⊢
  rw [hm] at hla ⊢
  have hb1 : Below w.heap.size w (w.alloc (.cells #[.int .u64 (k.dc : Int), .int .u64 (k.ds : Int), .int .u64 (k.fc : Int), .int .u64 (k.fs : Int), .slice A n c1, .slice B m c2] 31)) := (Below.refl _ w).alloc (Nat.le_refl _) _
  have x1 : (w.alloc (.cells #[.int .u64 (k.dc : Int), .int .u64 (k.ds : Int), .int .u64 (k.fc : Int), .int .u64 (k.fs : Int), .slice A n c1, .slice B m c2] 31)).heap[w.heap.size]? = some (.cells #[.int .u64 (k.dc : Int), .int .u64 (k.ds : Int), .int .u64 (k.fc : Int), .int .u64 (k.fs : Int), .slice A n c1, .slice B m c2] 31 (0, 0)) := K.heap_alloc_at _ _
  have HB := Lib.hid (And.intro hb1 (And.intro x1 (And.intro hW hB)))
  clear hb1 x1 hW hB hn hm
  go_enter Tryd.func12, Tryd.ntmps12
  by_cases t1 : k.dc < k.fc
  · have t1' : decide (k.dc < k.fc) = true := by simpa using t1
    have t1'' : (k.dc : Int) < (k.fc : Int) := by omega
    go_wp2_with fail
    go_ret
    exact so_no HB.out.1
  by_cases t2 : k.ds < k.fs
  · have t2' : decide (k.ds < k.fs) = true := by simpa using t2
    have t2'' : (k.ds : Int) < (k.fs : Int) := by omega
    have t1'' : (k.fc : Int) ≤ (k.dc : Int) := by omega
    go_wp2_with fail
    go_ret
    exact so_no HB.out.1
  have HT := Lib.hid (show So1 k 0 from ⟨by omega, by omega, fun i hi => by omega⟩)
  have t1'' : (k.fc : Int) ≤ (k.dc : Int) := by omega
  have t2'' : (k.fs : Int) ≤ (k.ds : Int) := by omega
  go_wp2_with fail
  obtain ⟨gb, gx1, gh1, gh2⟩ := HB.out
  generalize (w.alloc (.cells #[.int .u64 (k.dc : Int), .int .u64 (k.ds : Int), .int .u64 (k.fc : Int), .int .u64 (k.fs : Int), .slice A n c1, .slice B m c2] 31)) = W at gb gx1 ⊢
  have hbW : But (fun _ => False) w W := But.of gb
  have HW := Lib.hid (And.intro gb (And.intro gx1 (And.intro (gh1.but hbW (fun _ _ h => h)) (gh2.but hbW (fun _ _ h => h)))))
  clear gb gx1 gh1 gh2 hbW HB t1 t2 t1'' t2''
  go_loopw [3, 4] (fun i _ wr => ∃ j : Nat, j ≤ n ∧ i = .int .i64 (j : Int) ∧ Hid (But (fun _ => False) W wr ∧ So1 k j)) (fun i _ _ => n - (intOf i).toNat)
  case atStart => exact ⟨0, by omega, rfl, Lib.hid ⟨But.refl _ W, HT.out⟩⟩
  case round =>
    obtain ⟨j, hj, rfl, HR⟩ := hrel
    have y1 := (HR.out.1.block _ (lt_of_heap HW.out.2.1) (fun h => h)).trans HW.out.2.1
    have m4 : wr.cell? ⟨w.heap.size, 4, none⟩ = some (.slice A n c1) := cell_of y1 rfl
    by_cases hlt : j < n
    · as_aux_lemma =>
      have m0 : wr.cell? ⟨w.heap.size, 0, none⟩ = some (.int .u64 (k.dc : Int)) := cell_of y1 rfl
      have m1 : wr.cell? ⟨w.heap.size, 1, none⟩ = some (.int .u64 (k.ds : Int)) := cell_of y1 rfl
      have m2 : wr.cell? ⟨w.heap.size, 2, none⟩ = some (.int .u64 (k.fc : Int)) := cell_of y1 rfl
      have m3 : wr.cell? ⟨w.heap.size, 3, none⟩ = some (.int .u64 (k.fs : Int)) := cell_of y1 rfl
      have hjl : j < k.waits.length := by rw [HN.out.1]; exact hlt
      obtain ⟨b1, o1, rfl, a0, a1, a2⟩ := (HW.out.2.2.1.but HR.out.1 (fun _ _ h => h)).get hjl
      obtain ⟨x, hxe⟩ : ∃ x, k.waits[j] = x := ⟨_, rfl⟩
      have hxq : k.waits[j]? = some x := List.getElem?_eq_some_iff.2 ⟨hjl, hxe⟩
      rw [hxe] at a0 a1 a2
      have hj0 : (0 : Int) ≤ (j : Int) := by omega
      have hj1 : (j : Int) < (n : Int) := by omega
      have a0' := past a0
      have a1' := past a1
      have a2' := past a2
      have m0' := past m0
      have m1' := past m1
      have m2' := past m2
      have m3' := past m3
      have m4' := past m4
      have HX := Lib.hid hxq
      have HBA := Lib.hid (HR.out.1.alloc (.cells #[.int .u64 (x.s : Int), .int .u64 (x.c : Int), .int .i64 x.t] 47))
      have HBL := Lib.hid (But.below HW.out.1 HBA.out (fun _ h => h.elim) HW.out.1.size)
      have HJ := Lib.hid hlt
      clear hjl hxe hxq hlt y1
      by_cases h0 : x.s ≤ k.fs
      · have g0 : decide (x.s ≤ k.fs) = true := by simpa using h0
        clear h0
        go_wp2_with fail
        go_quiet (fail)
        go_wp2_with fail
        go_ret
        exact so_no (K.below_drewN HBL.out _)
      have g0 : decide (x.s ≤ k.fs) = false := by simpa using h0
      by_cases h1 : k.ds < x.s
      · have g1 : decide (k.ds < x.s) = true := by simpa using h1
        clear h1
        go_wp2_with fail
        go_quiet (fail)
        go_wp2_with fail
        go_ret
        exact so_no (K.below_drewN HBL.out _)
      have g1 : decide (k.ds < x.s) = false := by simpa using h1
      by_cases h2 : x.c ≤ k.fc
      · have g2 : decide (x.c ≤ k.fc) = true := by simpa using h2
        clear h2
        go_wp2_with fail
        go_quiet (fail)
        go_wp2_with fail
        go_ret
        exact so_no (K.below_drewN HBL.out _)
      have g2 : decide (x.c ≤ k.fc) = false := by simpa using h2
      by_cases h3 : k.dc < x.c
      · have g3 : decide (k.dc < x.c) = true := by simpa using h3
        clear h3
        go_wp2_with fail
        go_quiet (fail)
        go_wp2_with fail
        go_ret
        exact so_no (K.below_drewN HBL.out _)
      have g3 : decide (k.dc < x.c) = false := by simpa using h3
      have HH := Lib.hid (show k.fs < x.s ∧ x.s ≤ k.ds ∧ k.fc < x.c ∧ x.c ≤ k.dc by omega)
      clear h0 h1 h2 h3
      by_cases hz : j = 0
      · have g5 : decide ((0 : Int) < (j : Int)) = false := by simp; omega
        have g6 : decide (0 < j) = false := by simp; omega
        have HF := Lib.hid (HR.out.2.next HX.out HH.out (fun i hi => by omega))
        clear hz
        go_wp2_with fail
        go_quiet (fail)
        go_wp2_with fail
        have hlt := HJ.out
        exact ⟨⟨j + 1, by omega, by go_num, Lib.hid ⟨HBA.out.drewN _, HF.out⟩⟩, by simp [intOf]; omega⟩
      · obtain ⟨i, hji⟩ : ∃ i, j = i + 1 := ⟨j - 1, by omega⟩
        have hil : i < k.waits.length := by have := HJ.out; have := HN.out.1; omega
        obtain ⟨b1', o1', eA, e0, e1, e2⟩ := (HW.out.2.2.1.but HR.out.1 (fun _ _ h => h)).get hil
        cases eA
        obtain ⟨y, hye⟩ : ∃ y, k.waits[i] = y := ⟨_, rfl⟩
        have hyq : k.waits[i]? = some y := List.getElem?_eq_some_iff.2 ⟨hil, hye⟩
        rw [hye] at e0 e1 e2
        have HY := Lib.hid (And.intro hji hyq)
        have g5 : decide ((0 : Int) < (j : Int)) = true := by simp; omega
        have g6 : decide (0 < j) = true := by simp; omega
        have z0 : (0 : Int) ≤ (j : Int) - 1 := by omega
        have z1 : (j : Int) - 1 < (n : Int) := by omega
        have z2 : ((j : Int) - 1).toNat = i := by omega
        have e0' := past e0
        have e1' := past e1
        clear hye hyq hji hil e2 hz
        by_cases h7 : x.s ≤ y.s
        · have g7 : decide (x.s ≤ y.s) = true := by simpa using h7
          clear h7
          go_wp2_with fail
          go_quiet (fail)
          go_wp2_with fail
          go_ret
          exact so_no (K.below_drewN HBL.out _)
        have g7 : decide (x.s ≤ y.s) = false := by simpa using h7
        by_cases h8 : x.c ≤ y.c
        · have g8 : decide (x.c ≤ y.c) = true := by simpa using h8
          clear h8 h7
          go_wp2_with fail
          go_quiet (fail)
          go_wp2_with fail
          go_ret
          exact so_no (K.below_drewN HBL.out _)
        have g8 : decide (x.c ≤ y.c) = false := by simpa using h8
        have HF := Lib.hid (HR.out.2.next HX.out HH.out (fun i' hi' y' hy' => by
          obtain ⟨hji, hyq⟩ := HY.out
          obtain rfl : i' = i := by omega
          rw [hyq] at hy'; cases hy'
          omega))
        clear h7 h8
        go_wp2_with fail
        go_quiet (fail)
        go_wp2_with fail
        have hlt := HJ.out
        exact ⟨⟨j + 1, by omega, by go_num, Lib.hid ⟨HBA.out.drewN _, HF.out⟩⟩, by simp [intOf]; omega⟩
    · as_aux_lemma =>
      obtain rfl : j = n := by omega
      have HT2 := Lib.hid (show So2 k ag 0 from fun i hi => by omega)
      have hs1 := HR.out.2
      rw [← HN.out.1] at hs1
      have HS1 := Lib.hid hs1
      have HRW := Lib.hid HR.out.1
      have m5 : wr.cell? ⟨w.heap.size, 5, none⟩ = some (.slice B m c2) := cell_of y1 rfl
      clear hlt y1 hs1 HT
      go_wp2_with fail
      clear m4 m5
      go_loopw [5] (fun i wr => ∃ q : Nat, q ≤ m ∧ i = .int .i64 (q : Int) ∧ Hid (But (fun _ => False) W wr ∧ So2 k ag q)) (fun i _ => m - (intOf i).toNat)
      case atStart => exact ⟨0, by omega, rfl, Lib.hid ⟨HRW.out, HT2.out⟩⟩
      case round =>
        obtain ⟨q, hq, rfl, HQ⟩ := hrel
        have y1 := (HQ.out.1.block _ (lt_of_heap HW.out.2.1) (fun h => h)).trans HW.out.2.1
        have m4 : wr.cell? ⟨w.heap.size, 4, none⟩ = some (.slice A j c1) := cell_of y1 rfl
        have m5 : wr.cell? ⟨w.heap.size, 5, none⟩ = some (.slice B m c2) := cell_of y1 rfl
        have HBL := Lib.hid (But.below HW.out.1 HQ.out.1 (fun _ h => h.elim) HW.out.1.size)
        by_cases hlt : q < m
        · have hjl : q < ag.length := by rw [HN.out.2]; exact hlt
          obtain ⟨b1, o1, rfl, a0, a1⟩ := (HW.out.2.2.2.but HQ.out.1 (fun _ _ h => h)).get hjl
          obtain ⟨x, hxe⟩ : ∃ x, ag[q] = x := ⟨_, rfl⟩
          have hxq : ag[q]? = some x := List.getElem?_eq_some_iff.2 ⟨hjl, hxe⟩
          rw [hxe] at a0 a1
          have hj0 : (0 : Int) ≤ (q : Int) := by omega
          have hj1 : (q : Int) < (m : Int) := by omega
          have HX := Lib.hid hxq
          have HJ := Lib.hid hlt
          have hWr := HW.out.2.2.1.but HQ.out.1 (fun _ _ h => h)
          have h20 := fun (p : Nat) => waitAt_any A j c1 x.s k.waits (wr.drewN p) hWr HN.out.1 hl
          have hz := wzf_mem (s := x.s) k.waits 0
          generalize wzf x.s k.waits 0 = z at h20 hz
          have HZ := Lib.hid hz
          clear hjl hxe hxq hlt y1 hWr hz
          by_cases h0 : z < 0
          · have g0 : decide (z < 0) = true := by simpa using h0
            have g0' : ¬ 0 ≤ z := by omega
            clear HZ
            go_wp2_with fail
            go_quiet ((go_at_call 20; exact Calls.quiet_of_same (h20 _)))
            go_wp2_with fail
            go_ret
            exact so_no (K.below_drewN HBL.out _)
          have g0 : decide (z < 0) = false := by simpa using h0
          by_cases h1 : x.n < 1
          · have g1 : decide (x.n < 1) = true := by simpa using h1
            have g1' : decide ((x.n : Int) < 1) = true := by simp; omega
            have h1' : (x.n : Int) < 1 := by omega
            go_wp2_with fail
            go_quiet ((go_at_call 20; exact Calls.quiet_of_same (h20 _)))
            go_wp2_with fail
            go_ret
            exact so_no (K.below_drewN HBL.out _)
          have g1 : decide (x.n < 1) = false := by simpa using h1
          have g1' : decide ((x.n : Int) < 1) = false := by simp; omega
          have HH := Lib.hid (show 1 ≤ x.n ∧ ∃ y ∈ k.waits, y.s = x.s from ⟨by omega, HZ.out (by omega)⟩)
          have h1' : (1 : Int) ≤ (x.n : Int) := by omega
          have h0' : (0 : Int) ≤ z := by omega
          clear h1 HZ h0
          by_cases hz : q = 0
          · have g5 : decide ((0 : Int) < (q : Int)) = false := by simp; omega
            have g6 : decide (0 < q) = false := by simp; omega
            have HF := Lib.hid (HQ.out.2.next HX.out HH.out (fun i hi => by omega))
            clear hz
            go_wp2_with fail
            go_quiet ((go_at_call 20; exact Calls.quiet_of_same (h20 _)))
            go_wp2_with fail
            have hlt := HJ.out
            exact ⟨⟨q + 1, by omega, by go_num, Lib.hid ⟨HQ.out.1.drewN _, HF.out⟩⟩, by simp [intOf]; omega⟩
          · obtain ⟨i, hji⟩ : ∃ i, q = i + 1 := ⟨q - 1, by omega⟩
            have hil : i < ag.length := by have := HJ.out; have := HN.out.2; omega
            obtain ⟨b1', o1', eA, e0, e1⟩ := (HW.out.2.2.2.but HQ.out.1 (fun _ _ h => h)).get hil
            cases eA
            obtain ⟨y, hye⟩ : ∃ y, ag[i] = y := ⟨_, rfl⟩
            have hyq : ag[i]? = some y := List.getElem?_eq_some_iff.2 ⟨hil, hye⟩
            rw [hye] at e0 e1
            have HY := Lib.hid (And.intro hji hyq)
            have g5 : decide ((0 : Int) < (q : Int)) = true := by simp; omega
            have g6 : decide (0 < q) = true := by simp; omega
            have z0 : (0 : Int) ≤ (q : Int) - 1 := by omega
            have z1 : (q : Int) - 1 < (m : Int) := by omega
            have z2 : ((q : Int) - 1).toNat = i := by omega
            clear hye hyq hji hil e1 hz
            by_cases h7 : x.s ≤ y.s
            · have g7 : decide (x.s ≤ y.s) = true := by simpa using h7
              clear h7
              go_wp2_with fail
              go_quiet ((go_at_call 20; exact Calls.quiet_of_same (h20 _)))
              go_wp2_with fail
              go_ret
              exact so_no (K.below_drewN HBL.out _)
            have g7 : decide (x.s ≤ y.s) = false := by simpa using h7
            have HF := Lib.hid (HQ.out.2.next HX.out HH.out (fun i' hi' y' hy' => by
              obtain ⟨hji, hyq⟩ := HY.out
              obtain rfl : i' = i := by omega
              rw [hyq] at hy'; cases hy'
              omega))
            clear h7
            go_wp2_with fail
            go_quiet ((go_at_call 20; exact Calls.quiet_of_same (h20 _)))
            go_wp2_with fail
            have hlt := HJ.out
            exact ⟨⟨q + 1, by omega, by go_num, Lib.hid ⟨HQ.out.1.drewN _, HF.out⟩⟩, by simp [intOf]; omega⟩
        · as_aux_lemma =>
          obtain rfl : q = m := by omega
          have hs2 := HQ.out.2
          rw [← HN.out.2] at hs2
          have HF := Lib.hid (So2.sound HS1.out hs2)
          clear hlt y1 hs2 m4
          go_wp2_with fail
          go_ret
          exact ⟨true, rfl, fun _ => HF.out, HBL.out⟩
end Go.Proofs.YtchphfdoneckeaaDoor
