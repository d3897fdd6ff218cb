/-
  FramesRight: frames such as a client may send.
-/
import Derived.Test.YtkkedekgniffoaaDoorFs
import Derived.Deep.QuietTactic
import Derived.BigQuiet
namespace Go.Proofs.YtkkedekgniffoaaDoor
open Go.RowKit

namespace Fr
theorem right_of (fs : List F0) (d : F0) : ∀ (o : Bool), (∀ j, j < fs.length → okHere (last o (fs.take j)) (fs.getD j d) (decide (j + 1 = fs.length)) = true) → right o fs = true := by
  induction fs with
  | nil => intro o _; rfl
  | cons f fs ih =>
    intro o h
    simp only [right, Bool.and_eq_true]
    constructor
    · have h0 := h 0 (by simp)
      simp only [List.take_zero, last, List.getD_cons_zero, List.length_cons] at h0
      have e : fs.isEmpty = decide (0 + 1 = fs.length + 1) := by cases fs <;> simp
      rw [e]; exact h0
    · refine ih (next o f) fun j hj => ?_
      have h1 := h (j + 1) (by simp; omega)
      simp only [List.take_succ_cons, last, List.getD_cons_succ, List.length_cons] at h1
      have e : decide (j + 1 + 1 = fs.length + 1) = decide (j + 1 = fs.length) := by simp
      rw [← e]; exact h1
theorem last_snoc : ∀ (fs : List F0) (o : Bool) (f : F0), last o (fs ++ [f]) = next (last o fs) f
  | [], _, _ => rfl
  | g :: fs, o, f => by simp only [List.cons_append, last]; exact last_snoc fs (next o g) f
theorem last_step (o : Bool) (fs : List F0) (d : F0) (k : Nat) (h : k < fs.length) : last o (fs.take (k + 1)) = next (last o (fs.take k)) (fs.getD k d) := by
  have e : fs.getD k d = fs[k] := by rw [List.getD, List.getElem?_eq_getElem h]; rfl
  rw [List.take_succ_eq_append_getElem h, last_snoc, e]
end Fr

theorem f0_getD (l : List Fa) (k : Nat) (h : k < l.length) : (l.map Fa.f0).getD k noF.f0 = (frA l k).f0 := by
  simp [frA, List.getD, h]

theorem ret_bool {b b' : Bool} (h : b = b') : Ending.returned (.bool b) = .returned (.bool b') := by rw [h]
set_option maxRecDepth 100000 in
theorem status_any (n : Nat) (w : World) (hn : n < 100000) : Calls Tryd.prog 17 #[.int .i64 n] w (fun e w' => e = .returned (.bool (Fr.status n)) ∧ w' = w) := by
  go_enter Tryd.func17, Tryd.ntmps17
  go_wp2_with fail
  all_goals
    go_ret
    refine ⟨ret_bool ?_, rfl⟩
    unfold Fr.status
    rw [Bool.eq_iff_iff]
    first
      | (simp only [Bool.or_eq_true, decide_eq_true_eq, Bool.false_eq_true, true_iff, false_iff]; omega)
      | (simp; omega)

theorem ok0 {s : ByteArray} {fin b : Bool} {m : Nat} (h : s.size ≤ 100000) : Fr.okHere true (⟨0, fin, m, s⟩ : Fa).f0 b = true := by
  simp [Fr.okHere, Fa.f0, h]
theorem ok1 {s : ByteArray} {fin b : Bool} {op m : Nat} (h : s.size ≤ 100000) (ho : op = 1 ∨ op = 2) : Fr.okHere false (⟨op, fin, m, s⟩ : Fa).f0 b = true := by
  have h0 : op ≠ 0 := by omega
  simp [Fr.okHere, Fa.f0, h, h0, ho]
theorem ok9 {s : ByteArray} {o b : Bool} {op m : Nat} (h : s.size ≤ 125) (ho : op = 9 ∨ op = 10) : Fr.okHere o (⟨op, true, m, s⟩ : Fa).f0 b = true := by
  have h0 : op ≠ 0 := by omega
  have h1 : ¬ (op = 1 ∨ op = 2) := by omega
  have h2 : op = 8 ∨ op = 9 ∨ op = 10 := by omega
  have h3 : op ≠ 8 := by omega
  have h4 : s.size ≤ 100000 := by omega
  simp [Fr.okHere, Fa.f0, h, h0, h1, h3, h4]
  exact ho
theorem ok8 {s : ByteArray} {o : Bool} {m : Nat} (h : s.size ≤ 125) (h1 : s.size ≠ 1) (h2 : s.size = 0 ∨ Fr.status ((s.data.toList.getD 0 0).toNat * 256 + (s.data.toList.getD 1 0).toNat) = true) : Fr.okHere o (⟨8, true, m, s⟩ : Fa).f0 true = true := by
  have h4 : s.size ≤ 100000 := by omega
  simp only [Fr.okHere, Fa.f0, K.bsize, Bool.and_eq_true, decide_eq_true_eq]
  refine ⟨h4, ?_⟩
  rw [if_neg (by decide), if_neg (by decide), if_pos (by decide)]
  simp only [Bool.and_eq_true, decide_eq_true_eq, if_true, Bool.or_eq_true]
  refine ⟨⟨trivial, h⟩, ⟨trivial, h1⟩, ?_⟩
  rcases h2 with h2 | h2
  · exact Or.inl (by omega)
  · exact Or.inr h2

theorem wrap_small {n : Int} (h0 : 0 ≤ n) (h1 : n < 1000000) : wrap64 n = n := by unfold wrap64; omega
theorem sum_two (a b : UInt8) : ((a.toNat * 256 + b.toNat : Nat) : Int) = wrap64 (wrap64 (wrap64 (a.toNat : Int) * 256) + wrap64 (b.toNat : Int)) := by
  have ha := a.toNat_lt
  have hb := b.toNat_lt
  generalize a.toNat = x at *
  generalize b.toNat = y at *
  rw [wrap_small (n := (x : Int)) (by omega) (by omega), wrap_small (n := (y : Int)) (by omega) (by omega), wrap_small (n := (x : Int) * 256) (by omega) (by omega), wrap_small (by omega) (by omega)]
  omega

def RightRel (l : List Fa) (n : Nat) (w : World) (k : Nat) (wr : World) : Prop :=
  Below w.heap.size w wr ∧ ∀ j, j < k → Fr.okHere (Fr.last false ((l.map Fa.f0).take j)) ((l.map Fa.f0).getD j noF.f0) (decide (j + 1 = n)) = true

set_option maxHeartbeats 8000000 in
set_option maxRecDepth 100000 in
theorem right_any (v : Value) (l : List Fa) (w : World) (hN : FrsV w v l) (hl : l.length ≤ 1000) : Calls Tryd.prog 8 #[v] w (BoolIf (Fr.right false (l.map Fa.f0) = true) w) := by
  obtain ⟨A, n, cap, rfl, hnc, hc, hA, hok⟩ := hN
  have hnm : n ≤ 1000 := by rw [← hA.1]; exact hl
  have HA := Lib.hid (And.intro hA hok)
  clear hA hok hnc hc hl
  go_enter Tryd.func8, Tryd.ntmps8
  go_wp2_with fail
  go_loopw [3, 8] (fun ov i wr => ∃ k : Nat, k ≤ n ∧ i = .int .i64 k ∧ (∃ o : Bool, ov = .bool o ∧ Hid (o = Fr.last false ((l.map Fa.f0).take k))) ∧ Hid (RightRel l n w k wr)) (fun _ i _ => n - (intOf i).toNat)
  case atStart => exact ⟨0, by omega, rfl, ⟨false, rfl, Lib.hid rfl⟩, Lib.hid ⟨Below.refl _ _, fun j hj => by omega⟩⟩
  case round =>
    obtain ⟨k, hk, rfl, ⟨o, rfl, HO⟩, HB⟩ := hrel
    by_cases hlt : k < n
    · obtain ⟨ab, ao, rfl, hab, hcs⟩ := HA.out.1.2 (by omega)
      have hx : ∀ o, wr.cell? ⟨ab, o, none⟩ = w.cell? ⟨ab, o, none⟩ := fun o => HB.out.1.cell (p := ⟨ab, o, none⟩) hab
      have c0 := (hx _).trans (hcs k hlt).1
      have c1 := (hx _).trans (hcs k hlt).2.1
      have c2 := (hx _).trans (hcs k hlt).2.2.1
      have c3 := (hx _).trans (hcs k hlt).2.2.2
      have HF := Lib.hid (f0_getD l k (by have := HA.out.1.1; omega))
      have HZ := Lib.hid (HA.out.2 _ (frA_mem (l := l) (j := k) (by have := HA.out.1.1; omega)))
      clear hcs hx
      generalize frA l k = a at c0 c1 c2 c3 HZ HF
      obtain ⟨op, fin, mask, s⟩ := a
      simp only at c0 c1 c2 c3 HZ
      have hs := HZ.out.data
      simp only at hs
      have HEND : Hid (∀ (x : World) (o' : Bool), Below wr.heap.size wr x → Fr.okHere o (⟨op, fin, mask, s⟩ : Fa).f0 (decide (k + 1 = n)) = true → o' = Fr.next o (⟨op, fin, mask, s⟩ : Fa).f0 →
          (∃ o2 : Bool, Value.bool o' = .bool o2 ∧ Hid (o2 = Fr.last false ((l.map Fa.f0).take (k + 1)))) ∧ Hid (RightRel l n w (k + 1) x)) := Lib.hid fun x o' hx hok hn => by
        refine ⟨⟨o', rfl, Lib.hid ?_⟩, Lib.hid ⟨HB.out.1.trans (hx.mono HB.out.1.size), fun j hj => ?_⟩⟩
        · rw [Fr.last_step false _ noF.f0 k (by have := HA.out.1.1; simp; omega), HF.out, ← HO.out]; exact hn
        · by_cases hjk : j < k
          · exact HB.out.2 j hjk
          · obtain rfl : j = k := by omega
            rw [HF.out, ← HO.out]; exact hok
      have HBB := Lib.hid ((Below.refl wr.heap.size wr).alloc (Nat.le_refl _) (.cells #[.int .u8 op, .bool fin, .int .u32 mask, .string s] 29))
      by_cases q0 : op = 0
      · subst q0
        cases o with
        | false =>
          go_wp2_with fail
          go_ret
          exact BoolIf.mk _ (HB.out.1.trans (HBB.out.mono HB.out.1.size)) fun h => by cases h
        | true =>
          by_cases hbig : (100000 : Int) < (s.size : Int)
          · go_wp2_with fail
            go_ret
            exact BoolIf.mk _ (HB.out.1.trans (HBB.out.mono HB.out.1.size)) fun h => by cases h
          · go_wp2_with fail
            go_roundw
            case rel => exact ⟨k + 1, by omega, by go_num, HEND.out _ _ HBB.out (ok0 (by omega)) rfl⟩
            case measure => simp [intOf]; omega
      · by_cases q1 : op = 1
        · subst q1
          cases o with
          | true =>
            go_wp2_with fail
            go_ret
            exact BoolIf.mk _ (HB.out.1.trans (HBB.out.mono HB.out.1.size)) fun h => by cases h
          | false =>
            by_cases hbig : (100000 : Int) < (s.size : Int)
            · go_wp2_with fail
              go_ret
              exact BoolIf.mk _ (HB.out.1.trans (HBB.out.mono HB.out.1.size)) fun h => by cases h
            · go_wp2_with fail
              go_roundw
              case rel => exact ⟨k + 1, by omega, by go_num, HEND.out _ _ HBB.out (ok1 (by omega) (by omega)) rfl⟩
              case measure => simp [intOf]; omega
        · by_cases q2 : op = 2
          · subst q2
            cases o with
            | true =>
              go_wp2_with fail
              go_ret
              exact BoolIf.mk _ (HB.out.1.trans (HBB.out.mono HB.out.1.size)) fun h => by cases h
            | false =>
              by_cases hbig : (100000 : Int) < (s.size : Int)
              · go_wp2_with fail
                go_ret
                exact BoolIf.mk _ (HB.out.1.trans (HBB.out.mono HB.out.1.size)) fun h => by cases h
              · go_wp2_with fail
                go_roundw
                case rel => exact ⟨k + 1, by omega, by go_num, HEND.out _ _ HBB.out (ok1 (by omega) (by omega)) rfl⟩
                case measure => simp [intOf]; omega
          · by_cases q9 : op = 9
            · subst q9
              cases fin with
              | false =>
                go_wp2_with fail
                go_ret
                exact BoolIf.mk _ (HB.out.1.trans (HBB.out.mono HB.out.1.size)) fun h => by cases h
              | true =>
                by_cases h125 : (125 : Int) < (s.size : Int)
                · go_wp2_with fail
                  go_ret
                  exact BoolIf.mk _ (HB.out.1.trans (HBB.out.mono HB.out.1.size)) fun h => by cases h
                · have hbig : ¬ ((100000 : Int) < (s.size : Int)) := by omega
                  go_wp2_with fail
                  go_quiet (fail)
                  go_wp2_with fail
                  go_roundw
                  case rel => exact ⟨k + 1, by omega, by go_num, HEND.out _ _ (K.below_drewN HBB.out _) (ok9 (by omega) (by omega)) rfl⟩
                  case measure => simp [intOf]; omega
            · by_cases q10 : op = 10
              · subst q10
                cases fin with
                | false =>
                  go_wp2_with fail
                  go_ret
                  exact BoolIf.mk _ (HB.out.1.trans (HBB.out.mono HB.out.1.size)) fun h => by cases h
                | true =>
                  by_cases h125 : (125 : Int) < (s.size : Int)
                  · go_wp2_with fail
                    go_ret
                    exact BoolIf.mk _ (HB.out.1.trans (HBB.out.mono HB.out.1.size)) fun h => by cases h
                  · have hbig : ¬ ((100000 : Int) < (s.size : Int)) := by omega
                    go_wp2_with fail
                    go_quiet (fail)
                    go_wp2_with fail
                    go_roundw
                    case rel => exact ⟨k + 1, by omega, by go_num, HEND.out _ _ (K.below_drewN HBB.out _) (ok9 (by omega) (by omega)) rfl⟩
                    case measure => simp [intOf]; omega
              · by_cases q8 : op = 8
                · subst q8
                  cases fin with
                  | false =>
                    go_wp2_with fail
                    go_ret
                    exact BoolIf.mk _ (HB.out.1.trans (HBB.out.mono HB.out.1.size)) fun h => by cases h
                  | true =>
                    by_cases h125 : (125 : Int) < (s.size : Int)
                    · go_wp2_with fail
                      go_ret
                      exact BoolIf.mk _ (HB.out.1.trans (HBB.out.mono HB.out.1.size)) fun h => by cases h
                    · have hbig : ¬ ((100000 : Int) < (s.size : Int)) := by omega
                      by_cases hkn : (k : Int) < (n : Int) - 1
                      · go_wp2_with fail
                        go_quiet (fail)
                        go_wp2_with fail
                        go_ret
                        exact BoolIf.mk _ (K.below_drewN (HB.out.1.trans (HBB.out.mono HB.out.1.size)) _) fun h => by cases h
                      · by_cases h1 : s.size = 1
                        · have h1B : ((s.size : Int) == 1) = true := by simp; omega
                          have hkB : decide ((k : Int) < (n : Int) - 1) = false := by simpa using hkn
                          have HH1 := Lib.hid h1
                          clear h1
                          go_wp2_with fail
                          go_quiet (fail)
                          go_wp2_with fail
                          go_ret
                          exact BoolIf.mk _ (K.below_drewN (HB.out.1.trans (HBB.out.mono HB.out.1.size)) _) fun h => by cases h
                        · have h1' : ¬ ((s.size : Int) = 1) := by omega
                          by_cases h2 : s.size = 0
                          · have h2B : decide ((1 : Int) < (s.size : Int)) = false := by simp; omega
                            have h1B : ((s.size : Int) == 1) = false := by simp; omega
                            have hkB : decide ((k : Int) < (n : Int) - 1) = false := by simpa using hkn
                            have HH1 := Lib.hid (And.intro h1 h2)
                            clear h1 h2 h1'
                            go_wp2_with fail
                            go_quiet (fail)
                            go_wp2_with fail
                            go_roundw
                            case rel => exact ⟨k + 1, by omega, by go_num, HEND.out _ _ (K.below_drewN HBB.out _) (by rw [show decide (k + 1 = n) = true from by simp; omega]; exact ok8 (by omega) HH1.out.1 (Or.inl HH1.out.2)) rfl⟩
                            case measure => simp [intOf]; omega
                          · have h2' : (1 : Int) < (s.size : Int) := by omega
                            have h20 : 0 < s.size := by omega
                            have h21 : 1 < s.size := by omega
                            have hg0 : s.data.toList.getD 0 0 = s[0] := by simp only [List.getD, List.getElem?_eq_getElem (show 0 < s.data.toList.length by rw [K.bsize]; exact h20)]; rfl
                            have hg1 : s.data.toList.getD 1 0 = s[1] := by simp only [List.getD, List.getElem?_eq_getElem (show 1 < s.data.toList.length by rw [K.bsize]; exact h21)]; rfl
                            have hst := fun W => status_any (s[0].toNat * 256 + s[1].toNat) W (by have := s[0].toNat_lt; have := s[1].toNat_lt; omega)
                            rw [sum_two] at hst
                            have h88 := fun h => ok8 (o := o) (m := mask) (s := s) (by omega) h1 (Or.inr h)
                            rw [hg0, hg1] at h88
                            have H88 := Lib.hid h88
                            clear hg0 hg1 h88
                            have h2B : decide ((1 : Int) < (s.size : Int)) = true := by simp; omega
                            have h1B : ((s.size : Int) == 1) = false := by simp; omega
                            have hkB : decide ((k : Int) < (n : Int) - 1) = false := by simpa using hkn
                            have HH1 := Lib.hid (And.intro h1 h2)
                            clear h1 h2 h1'
                            cases hb : Fr.status (s[0].toNat * 256 + s[1].toNat) with
                            | false =>
                              rw [hb] at hst
                              clear hb
                              go_wp2_with fail
                              go_quiet ((go_at_call 17; exact Calls.quiet_of_same (hst _)))
                              go_wp2_with fail
                              go_ret
                              exact BoolIf.mk _ (K.below_drewN (HB.out.1.trans (HBB.out.mono HB.out.1.size)) _) fun h => by cases h
                            | true =>
                              rw [hb] at hst
                              have HB8 := Lib.hid (H88.out hb)
                              clear hb
                              go_wp2_with fail
                              go_quiet ((go_at_call 17; exact Calls.quiet_of_same (hst _)))
                              go_wp2_with fail
                              go_roundw
                              case rel => exact ⟨k + 1, by omega, by go_num, HEND.out _ _ (K.below_drewN HBB.out _) (by rw [show decide (k + 1 = n) = true from by simp; omega]; exact HB8.out) rfl⟩
                              case measure => simp [intOf]; omega
                · have e0 : ¬ ((op : Int) = 0) := by omega
                  have e1 : ¬ ((op : Int) = 1) := by omega
                  have e2 : ¬ ((op : Int) = 2) := by omega
                  have e8 : ¬ ((op : Int) = 8) := by omega
                  have e9 : ¬ ((op : Int) = 9) := by omega
                  have e10 : ¬ ((op : Int) = 10) := by omega
                  go_wp2_with fail
                  go_ret
                  exact BoolIf.mk _ (HB.out.1.trans (HBB.out.mono HB.out.1.size)) fun h => by cases h
    · go_wp2_with fail
      go_ret
      refine BoolIf.mk _ HB.out.1 fun _ => Fr.right_of _ noF.f0 _ fun j hj => ?_
      have h1 := HA.out.1.1
      rw [show (l.map Fa.f0).length = n from by simp; exact h1]
      exact HB.out.2 j (by simp at hj; omega)
end Go.Proofs.YtkkedekgniffoaaDoor
