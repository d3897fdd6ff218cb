/-
  FramesWrong: the last one of frames is wrong.
-/
import Derived.Test.YtkkedekgniffoaaDoorFr
import Derived.Test.YtkkedekgniffoaaDoorBy
namespace Go.Proofs.YtkkedekgniffoaaDoor
open Go.RowKit
def WrongP (l : List Fa) : Prop := ∃ init f, l = init ++ [f] ∧ Fr.right false (init.map Fa.f0) = true ∧ (∀ x ∈ init, x.op ≠ 8) ∧ Fr.badLast (Fr.last false (init.map Fa.f0)) f.f0 = true
theorem FrsAt.take {w : World} {A : Option Addr} {m : Nat} {l : List Fa} (h : FrsAt w A (m + 1) l) : FrsAt w A m (l.take m) := by
  refine ⟨by have := h.1; simp; omega, fun hm => ?_⟩
  obtain ⟨ab, ao, e, hlt, hc⟩ := h.2 (by omega)
  refine ⟨ab, ao, e, hlt, fun j hj => ?_⟩
  have e2 : frA (l.take m) j = frA l j := by simp [frA, List.getD, hj]
  rw [e2]
  exact hc j (by omega)
theorem frA_take {l : List Fa} {m j : Nat} (h : j < m) : frA (l.take m) j = frA l j := by simp [frA, List.getD, h]
def WrongRel (l : List Fa) (m : Nat) (w : World) (k : Nat) (o : Bool) (wr : World) : Prop :=
  Below w.heap.size w wr ∧ o = Fr.last false (((l.take m).map Fa.f0).take k) ∧ ∀ j, j < k → (frA l j).op ≠ 8

set_option maxHeartbeats 8000000 in
set_option maxRecDepth 100000 in
theorem wrong_any (v : Value) (l : List Fa) (w : World) (hN : FrsV w v l) (hl : l.length ≤ 1000) : Calls Tryd.prog 12 #[v] w (BoolIf (WrongP l) w) := by
  obtain ⟨A, n, cap, rfl, hnc, hc, hA, hok⟩ := hN
  have hnm : n ≤ 1000 := by rw [← hA.1]; exact hl
  clear hl
  cases n with
  | zero =>
    clear hA hok
    go_enter Tryd.func12, Tryd.ntmps12
    go_wp2_with fail
    go_ret
    exact BoolIf.mk _ (Below.refl _ _) fun h => by cases h
  | succ m =>
    have hmc : m + 1 ≤ cap := hnc
    have hR := right_any (.slice A m cap) (l.take m) w ⟨A, m, cap, rfl, by omega, hc, hA.take, fun f hf => hok f (List.mem_of_mem_take hf)⟩ (by simp; omega)
    have HA := Lib.hid (And.intro hA hok)
    clear hA hok hnc hc
    go_enter Tryd.func12, Tryd.ntmps12
    go_wp2_with fail
    refine hR.mono ?_
    rintro e w1 ⟨b, rfl, hb1, hr⟩
    have HR := Lib.hid (And.intro hb1 hr)
    clear hb1 hr
    cases b with
    | false =>
      go_wp2_with fail
      go_ret
      exact BoolIf.mk _ HR.out.1 fun h => by cases h
    | true =>
      go_wp2_with fail
      go_loopw [3, 25] (fun ov i wr => ∃ k : Nat, k ≤ m ∧ i = .int .i64 k ∧ ∃ o : Bool, ov = .bool o ∧ Hid (WrongRel l m w k o wr)) (fun _ i _ => m - (intOf i).toNat)
      case atStart => exact ⟨0, by omega, rfl, false, rfl, Lib.hid ⟨HR.out.1, rfl, fun j hj => by omega⟩⟩
      case round =>
        obtain ⟨k, hk, rfl, o, rfl, HB⟩ := hrel
        obtain ⟨ab, ao, rfl, hab, hcs⟩ := HA.out.1.2 (by omega)
        have hx : ∀ o, wr.cell? ⟨ab, o, none⟩ = w.cell? ⟨ab, o, none⟩ := fun o => HB.out.1.cell (p := ⟨ab, o, none⟩) hab
        have hl1 := HA.out.1.1
        by_cases hlt : k < m
        · have c0 := (hx _).trans (hcs k (by omega)).1
          have c1 := (hx _).trans (hcs k (by omega)).2.1
          have c2 := (hx _).trans (hcs k (by omega)).2.2.1
          have c3 := (hx _).trans (hcs k (by omega)).2.2.2
          have HEND : Hid (∀ (x : World) (o' : Bool), Below wr.heap.size wr x → (frA l k).op ≠ 8 → o' = Fr.next o (frA l k).f0 → WrongRel l m w (k + 1) o' x) := Lib.hid fun x o' hx h8 hn => by
            refine ⟨HB.out.1.trans (hx.mono HB.out.1.size), ?_, fun j hj => ?_⟩
            · rw [Fr.last_step false _ noF.f0 k (by simp; omega), f0_getD _ _ (by simp; omega), frA_take hlt, ← HB.out.2.1]; exact hn
            · by_cases hjk : j < k
              · exact HB.out.2.2 j hjk
              · obtain rfl : j = k := by omega
                exact h8
          have HL1 := Lib.hid hl1
          clear hcs hx hl1
          generalize frA l k = a at c0 c1 c2 c3 HEND
          obtain ⟨op, fin, mask, s⟩ := a
          simp only at c0 c1 c2 c3 HEND
          have HBB := Lib.hid ((Below.refl wr.heap.size wr).alloc (Nat.le_refl _) (.cells #[.int .u8 op, .bool fin, .int .u32 mask, .string s] 29))
          by_cases h8 : (op : Int) = 8
          · go_wp2_with fail
            go_ret
            exact BoolIf.mk _ (HB.out.1.trans (((Below.refl wr.heap.size wr).alloc (Nat.le_refl _) _).mono HB.out.1.size)) fun h => by cases h
          · have hop8 : Hid (op ≠ 8) := Lib.hid (by omega)
            by_cases h2 : (op : Int) ≤ 2
            · have HN := Lib.hid (show Fr.next o (⟨op, fin, mask, s⟩ : Fa).f0 = !fin from if_pos (show op ≤ 2 by omega))
              go_wp2_with fail
              go_roundw
              case rel => exact ⟨k + 1, by omega, by go_num, _, rfl, Lib.hid (HEND.out _ _ HBB.out hop8.out HN.out.symm)⟩
              case measure => simp [intOf]; omega
            · have HN := Lib.hid (show Fr.next o (⟨op, fin, mask, s⟩ : Fa).f0 = o from if_neg (show ¬ op ≤ 2 by omega))
              go_wp2_with fail
              go_roundw
              case rel => exact ⟨k + 1, by omega, by go_num, _, rfl, Lib.hid (HEND.out _ _ HBB.out hop8.out HN.out.symm)⟩
              case measure => simp [intOf]; omega
        · obtain rfl : k = m := by omega
          have c0 := (hx _).trans (hcs k (by omega)).1
          have c1 := (hx _).trans (hcs k (by omega)).2.1
          have c2 := (hx _).trans (hcs k (by omega)).2.2.1
          have c3 := (hx _).trans (hcs k (by omega)).2.2.2
          have HEND : Hid (∀ b : Bool, b = Fr.badLast o (frA l k).f0 → b = true → WrongP l) := Lib.hid fun b hb ht => by
            have e1 : frA l k = l[k]'(by omega) := by unfold frA; rw [List.getD, List.getElem?_eq_getElem (by omega)]; rfl
            refine ⟨l.take k, frA l k, ?_, HR.out.2 trivial, fun x hx => ?_, ?_⟩
            · rw [e1, ← List.take_succ_eq_append_getElem (by omega), List.take_of_length_le (by omega)]
            · obtain ⟨j, hj, rfl⟩ := List.getElem_of_mem hx
              have hj' : j < k := by simp at hj; omega
              have := HB.out.2.2 j hj'
              have e2 : frA l j = (l.take k)[j] := by rw [List.getElem_take]; unfold frA; rw [List.getD, List.getElem?_eq_getElem (by omega)]; rfl
              rw [← e2]; exact this
            · have h := HB.out.2.1
              rw [List.take_of_length_le (by simp; omega)] at h
              rw [← h, ← hb]; exact ht
          have hop := (HA.out.2 _ (frA_mem (l := l) (j := k) (by omega))).op
          have HL1 := Lib.hid hl1
          clear hcs hx hl1
          generalize frA l k = a at c0 c1 c2 c3 HEND hop
          obtain ⟨op, fin, mask, s⟩ := a
          simp only at c0 c1 c2 c3 HEND hop
          have HBB := Lib.hid (HB.out.1.alloc HB.out.1.size (.cells #[.int .u8 op, .bool fin, .int .u32 mask, .string s] 29))
          by_cases q0 : op % 16 = 0
          · have HQ := Lib.hid q0
            have i0 : (op : Int) % 16 = 0 := by omega
            clear q0
            go_wp2_with fail
            go_ret
            exact BoolIf.mk _ (HBB.out) (HEND.out _ (by simp [Fr.badLast, Fa.f0, HQ.out]))
          · by_cases q1 : op % 16 = 1
            · have HQ := Lib.hid q1
              have i0 : ¬ ((op : Int) % 16 = 0) := by omega
              have i1 : (op : Int) % 16 = 1 := by omega
              clear q1
              go_wp2_with fail
              go_ret
              exact BoolIf.mk _ (HBB.out) (HEND.out _ (by simp [Fr.badLast, Fa.f0, HQ.out]))
            · by_cases q2 : op % 16 = 2
              · have HQ := Lib.hid q2
                have i0 : ¬ ((op : Int) % 16 = 0) := by omega
                have i1 : ¬ ((op : Int) % 16 = 1) := by omega
                have i2 : (op : Int) % 16 = 2 := by omega
                clear q2
                go_wp2_with fail
                go_ret
                exact BoolIf.mk _ (HBB.out) (HEND.out _ (by simp [Fr.badLast, Fa.f0, HQ.out]))
              · by_cases q8 : op % 16 = 8
                · have HQ := Lib.hid q8
                  have i0 : ¬ ((op : Int) % 16 = 0) := by omega
                  have i1 : ¬ ((op : Int) % 16 = 1) := by omega
                  have i2 : ¬ ((op : Int) % 16 = 2) := by omega
                  have i8 : (op : Int) % 16 = 8 := by omega
                  clear q8
                  cases fin with
                  | false =>
                    go_wp2_with fail
                    go_ret
                    exact BoolIf.mk _ (HBB.out) (HEND.out _ (by simp [Fr.badLast, Fa.f0, HQ.out]))
                  | true =>
                    go_wp2_with fail
                    go_ret
                    exact BoolIf.mk _ (HBB.out) (HEND.out _ (by simp [Fr.badLast, Fa.f0, HQ.out]; exact decide_eq_decide.2 (by omega)))
                · by_cases q9 : op % 16 = 9
                  · have HQ := Lib.hid q9
                    have i0 : ¬ ((op : Int) % 16 = 0) := by omega
                    have i1 : ¬ ((op : Int) % 16 = 1) := by omega
                    have i2 : ¬ ((op : Int) % 16 = 2) := by omega
                    have i8 : ¬ ((op : Int) % 16 = 8) := by omega
                    have i9 : (op : Int) % 16 = 9 := by omega
                    clear q9
                    cases fin with
                    | false =>
                      go_wp2_with fail
                      go_ret
                      exact BoolIf.mk _ (HBB.out) (HEND.out _ (by simp [Fr.badLast, Fa.f0, HQ.out]))
                    | true =>
                      go_wp2_with fail
                      go_ret
                      exact BoolIf.mk _ (HBB.out) (HEND.out _ (by simp [Fr.badLast, Fa.f0, HQ.out]; exact decide_eq_decide.2 (by omega)))
                  · by_cases q10 : op % 16 = 10
                    · have HQ := Lib.hid q10
                      have i0 : ¬ ((op : Int) % 16 = 0) := by omega
                      have i1 : ¬ ((op : Int) % 16 = 1) := by omega
                      have i2 : ¬ ((op : Int) % 16 = 2) := by omega
                      have i8 : ¬ ((op : Int) % 16 = 8) := by omega
                      have i9 : ¬ ((op : Int) % 16 = 9) := by omega
                      have i10 : (op : Int) % 16 = 10 := by omega
                      clear q10
                      cases fin with
                      | false =>
                        go_wp2_with fail
                        go_ret
                        exact BoolIf.mk _ (HBB.out) (HEND.out _ (by simp [Fr.badLast, Fa.f0, HQ.out]))
                      | true =>
                        go_wp2_with fail
                        go_ret
                        exact BoolIf.mk _ (HBB.out) (HEND.out _ (by simp [Fr.badLast, Fa.f0, HQ.out]; exact decide_eq_decide.2 (by omega)))
                    · have HQ := Lib.hid (And.intro q0 (And.intro q1 (And.intro q2 (And.intro q8 (And.intro q9 q10)))))
                      have i0 : ¬ ((op : Int) % 16 = 0) := by omega
                      have i1 : ¬ ((op : Int) % 16 = 1) := by omega
                      have i2 : ¬ ((op : Int) % 16 = 2) := by omega
                      have i8 : ¬ ((op : Int) % 16 = 8) := by omega
                      have i9 : ¬ ((op : Int) % 16 = 9) := by omega
                      have i10 : ¬ ((op : Int) % 16 = 10) := by omega
                      clear q0 q1 q2 q8 q9 q10
                      go_wp2_with fail
                      go_ret
                      exact BoolIf.mk _ (HBB.out) (HEND.out _ (by simp [Fr.badLast, Fa.f0, HQ.out.1, HQ.out.2.1, HQ.out.2.2.1, HQ.out.2.2.2.1, HQ.out.2.2.2.2.1, HQ.out.2.2.2.2.2]))
end Go.Proofs.YtkkedekgniffoaaDoor
