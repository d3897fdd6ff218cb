/-
  The reference's dnSpecial, dnHex, dnType.
-/
import Derived.Test.YtnjjhklefamaoaaDoorHex
import Derived.Deep.DeepCutAuto

namespace Go.Proofs.YtnjjhklefamaoaaDoor
open Go.RowKit
open Dn (Attr Name)

def spB (n : Nat) : Bool := n = 34 || n = 43 || n = 44 || n = 59 || n = 60 || n = 62 || n = 92 || n = 0
set_option maxHeartbeats 4000000 in
set_option maxRecDepth 100000 in
theorem special_any (n : Nat) (w : World) (hn : n < 256) : Calls Tryd.prog 29 #[.int .u8 n] w (Is (spB n) w) := by
  obtain ⟨F, hF⟩ : ∃ F, F = spB n := ⟨_, rfl⟩
  rw [← hF]
  have HF := Lib.hid hF
  clear hF
  by_cases h34 : n = 34
  · subst h34
    go_enter Tryd.func29, Tryd.ntmps29
    go_wp2_with fail
    go_ret
    exact ⟨ret_bool (by rw [HF.out]; rfl), rfl⟩
  by_cases h43 : n = 43
  · subst h43
    go_enter Tryd.func29, Tryd.ntmps29
    go_wp2_with fail
    go_ret
    exact ⟨ret_bool (by rw [HF.out]; rfl), rfl⟩
  by_cases h44 : n = 44
  · subst h44
    go_enter Tryd.func29, Tryd.ntmps29
    go_wp2_with fail
    go_ret
    exact ⟨ret_bool (by rw [HF.out]; rfl), rfl⟩
  by_cases h59 : n = 59
  · subst h59
    go_enter Tryd.func29, Tryd.ntmps29
    go_wp2_with fail
    go_ret
    exact ⟨ret_bool (by rw [HF.out]; rfl), rfl⟩
  by_cases h60 : n = 60
  · subst h60
    go_enter Tryd.func29, Tryd.ntmps29
    go_wp2_with fail
    go_ret
    exact ⟨ret_bool (by rw [HF.out]; rfl), rfl⟩
  by_cases h62 : n = 62
  · subst h62
    go_enter Tryd.func29, Tryd.ntmps29
    go_wp2_with fail
    go_ret
    exact ⟨ret_bool (by rw [HF.out]; rfl), rfl⟩
  by_cases h92 : n = 92
  · subst h92
    go_enter Tryd.func29, Tryd.ntmps29
    go_wp2_with fail
    go_ret
    exact ⟨ret_bool (by rw [HF.out]; rfl), rfl⟩
  by_cases h0 : n = 0
  · subst h0
    go_enter Tryd.func29, Tryd.ntmps29
    go_wp2_with fail
    go_ret
    exact ⟨ret_bool (by rw [HF.out]; rfl), rfl⟩
  have t34 : ((n : Int) == 34) = false := beq_eq_false_iff_ne.2 (by omega)
  have t43 : ((n : Int) == 43) = false := beq_eq_false_iff_ne.2 (by omega)
  have t44 : ((n : Int) == 44) = false := beq_eq_false_iff_ne.2 (by omega)
  have t59 : ((n : Int) == 59) = false := beq_eq_false_iff_ne.2 (by omega)
  have t60 : ((n : Int) == 60) = false := beq_eq_false_iff_ne.2 (by omega)
  have t62 : ((n : Int) == 62) = false := beq_eq_false_iff_ne.2 (by omega)
  have t92 : ((n : Int) == 92) = false := beq_eq_false_iff_ne.2 (by omega)
  have t0 : ((n : Int) == 0) = false := beq_eq_false_iff_ne.2 (by omega)
  have HN := Lib.hid (show spB n = false from by unfold spB; simp; omega)
  clear h34 h43 h44 h59 h60 h62 h92 h0
  go_enter Tryd.func29, Tryd.ntmps29
  go_wp2_with fail
  go_ret
  exact ⟨ret_bool (by rw [HF.out, HN.out]), rfl⟩

def hexi (c : UInt8) : Int := match Dn.hexv c with | some x => x | none => -1
def IsI (i : Int) (w : World) (e : Ending) (w' : World) : Prop := e = .returned (.int .i64 i) ∧ w = w'
set_option maxHeartbeats 4000000 in
set_option maxRecDepth 100000 in
theorem hexi_any (c : UInt8) (w : World) : Calls Tryd.prog 30 #[.int .u8 c.toNat] w (IsI (hexi c) w) := by
  obtain ⟨F, hF⟩ : ∃ F, F = hexi c := ⟨_, rfl⟩
  rw [← hF]
  have hc := c.toNat_lt
  unfold hexi Dn.hexv at hF
  generalize c.toNat = n at *
  have key : (48 ≤ n ∧ n ≤ 57 ∧ F = (n : Int) - 48) ∨ (97 ≤ n ∧ n ≤ 102 ∧ F = (n : Int) - 97 + 10) ∨ (65 ≤ n ∧ n ≤ 70 ∧ F = (n : Int) - 65 + 10) ∨ ((n < 48 ∨ (57 < n ∧ n < 65) ∨ (70 < n ∧ n < 97) ∨ 102 < n) ∧ F = -1) := by
    by_cases h1 : 48 ≤ n ∧ n ≤ 57
    · rw [if_pos h1] at hF; simp at hF; left; omega
    · rw [if_neg h1] at hF
      by_cases h2 : 97 ≤ n ∧ n ≤ 102
      · rw [if_pos h2] at hF; simp at hF; right; left; omega
      · rw [if_neg h2] at hF
        by_cases h3 : 65 ≤ n ∧ n ≤ 70
        · rw [if_pos h3] at hF; simp at hF; right; right; left; omega
        · rw [if_neg h3] at hF; simp at hF; right; right; right; omega
  clear hF
  rcases key with ⟨a, b, e⟩ | ⟨a, b, e⟩ | ⟨a, b, e⟩ | ⟨a, e⟩
  · have HE := Lib.hid e
    clear e
    go_enter Tryd.func30, Tryd.ntmps30
    go_wp2_with fail
    go_ret
    exact ⟨ret_i (by rw [HE.out]), rfl⟩
  · have HE := Lib.hid e
    clear e
    go_enter Tryd.func30, Tryd.ntmps30
    go_wp2_with fail
    go_ret
    exact ⟨ret_i (by rw [HE.out]), rfl⟩
  · have HE := Lib.hid e
    clear e
    go_enter Tryd.func30, Tryd.ntmps30
    go_wp2_with fail
    go_ret
    exact ⟨ret_i (by rw [HE.out]), rfl⟩
  · have HE := Lib.hid e
    clear e
    rcases a with a | ⟨a, b⟩ | ⟨a, b⟩ | a
    all_goals
      go_enter Tryd.func30, Tryd.ntmps30
      go_wp2_with fail
      go_ret
      exact ⟨ret_i (by rw [HE.out]), rfl⟩

/-- a byte of a type: a letter, a digit, a hyphen, a point -/
def wordc (n : Nat) : Prop := (48 ≤ n ∧ n ≤ 57) ∨ (97 ≤ n ∧ n ≤ 122) ∨ (65 ≤ n ∧ n ≤ 90) ∨ n = 45 ∨ n = 46
def TypeOk (s : ByteArray) : Prop := 0 < s.size ∧ ∀ j (h : j < s.size), wordc s[j].toNat
def PureIf (P : Prop) (w : World) (e : Ending) (w' : World) : Prop := ∃ b : Bool, e = .returned (.bool b) ∧ w = w' ∧ (b = true → P)
theorem PureIf.mk {P : Prop} {w : World} (b : Bool) (h : b = true → P) : PureIf P w (.returned (.bool b)) w := ⟨b, rfl, rfl, h⟩

set_option maxHeartbeats 40000000 in
set_option maxRecDepth 100000 in
theorem type_any (s : ByteArray) (w : World) (hs : s.size ≤ 1000) : Calls Tryd.prog 17 #[.string s] w (PureIf (TypeOk s) w) := by
  obtain ⟨Q, hQ⟩ : ∃ Q, Q = TypeOk s := ⟨_, rfl⟩
  rw [← hQ]
  have HQ := Lib.hid hQ
  clear hQ
  by_cases h0 : s.size = 0
  · have e : s.toList = [] := by rw [toList_eq]; exact List.length_eq_zero_iff.1 (by rw [K.bsize]; exact h0)
    have e2 : s.toList.isEmpty = true := by rw [e]; rfl
    have e3 : (s.toList == []) = true := by rw [e]; rfl
    go_enter Tryd.func17, Tryd.ntmps17
    go_wp2_with fail
    go_ret
    exact PureIf.mk _ fun h => by cases h
  · have hpos : 0 < s.size := by omega
    have e2 : s.toList.isEmpty = false := by
      rw [toList_eq]
      cases e : s.data.toList with
      | nil => have := K.bsize s; rw [e] at this; simp at this; omega
      | cons a l => rfl
    have e3 : (s.toList == []) = false := by
      rw [toList_eq]
      cases e : s.data.toList with
      | nil => have := K.bsize s; rw [e] at this; simp at this; omega
      | cons a l => rfl
    have e4 : ¬ s.toList = [] := by rw [toList_eq]; intro e; have := K.bsize s; rw [e] at this; simp at this; omega
    have hp2 : (0 : Int) < (s.size : Int) := by omega
    clear h0
    have hone : 0 < s.size := hpos
    go_enter Tryd.func17, Tryd.ntmps17
    go_upto_region 3 with fail
    go_cut [3] (fun s3 wx => ∃ L : Bool, s3 = .bool L ∧ w = wx)
    case first =>
      have key : (s[0].toNat < 65) ∨ (65 ≤ s[0].toNat ∧ s[0].toNat ≤ 90) ∨ (91 ≤ s[0].toNat ∧ s[0].toNat ≤ 96) ∨ (97 ≤ s[0].toNat ∧ s[0].toNat ≤ 122) ∨ 123 ≤ s[0].toNat := by omega
      rcases key with a | ⟨a, b⟩ | ⟨a, b⟩ | ⟨a, b⟩ | a
      all_goals
        go_wp2_with fail
        go_meet
        exact ⟨_, rfl, rfl⟩
    case rest =>
      obtain ⟨L, rfl, hwx⟩ := hcut
      subst hwx
      go_wp2_with fail
      go_loopg [4] (s.size + 1) (fun gk i wr => ∃ k : Nat, k ≤ s.size ∧ gk = s.size + 1 - k ∧ i = .int .i64 k ∧ w = wr ∧ Hid (∀ j (h : j < s.size), j < k → wordc s[j].toNat))
      case atStart => exact ⟨0, by omega, by omega, rfl, rfl, Lib.hid fun j _ h => by omega⟩
      case round =>
        obtain ⟨k, hk, hg, rfl, rfl, HN⟩ := hrel
        by_cases hlt : k < s.size
        · have b0 : (0 : Int) ≤ (k : Int) := by omega
          have hc := s[k].toNat_lt
          have HS := Lib.hid (fun hw : wordc s[k].toNat => show ∀ j (h : j < s.size), j < k + 1 → wordc s[j].toNat from fun j h hj => by
            rcases Nat.lt_or_ge j k with h1 | h1
            · exact HN.out j h h1
            · have : j = k := by omega
              subst this; exact hw)
          go_upto_region 8 with fail
          go_cut [6] (fun s6 wx => ∃ D : Bool, s6 = .bool D ∧ w = wx ∧ Hid (D = true → 48 ≤ s[k].toNat ∧ s[k].toNat ≤ 57))
          case first =>
            have key : (s[k].toNat < 48) ∨ (48 ≤ s[k].toNat ∧ s[k].toNat ≤ 57) ∨ 57 < s[k].toNat := by omega
            rcases key with a | ⟨a, b⟩ | a
            all_goals
              go_wp2_with fail
              go_meet
              exact ⟨_, rfl, rfl, Lib.hid (by simp; try omega)⟩
          case rest =>
            obtain ⟨D, rfl, hwx, HD⟩ := hcut
            subst hwx
            go_upto_region 9 with fail
            go_cut [7] (fun s7 wx => ∃ W : Bool, s7 = .bool W ∧ w = wx ∧ Hid (W = true → wordc s[k].toNat))
            case first =>
              have key : (97 ≤ s[k].toNat ∧ s[k].toNat ≤ 122) ∨ (65 ≤ s[k].toNat ∧ s[k].toNat ≤ 90) ∨ s[k].toNat = 45 ∨ (s[k].toNat ≠ 45 ∧ (s[k].toNat < 65 ∨ (90 < s[k].toNat ∧ s[k].toNat < 97) ∨ 122 < s[k].toNat)) := by omega
              rcases key with ⟨x, y⟩ | ⟨x, y⟩ | x | ⟨n1, x | ⟨x, y⟩ | x⟩
              all_goals
                first
                  | have t1 : (((s[k].toNat : Nat) : Int) == 45) = false := beq_eq_false_iff_ne.2 (by omega)
                  | have t1 : ((s[k].toNat : Nat) : Int) = 45 := by omega
                go_wp2_with fail
                go_meet
                exact ⟨_, rfl, rfl, Lib.hid (by unfold wordc; simp; try omega)⟩
            case rest =>
              obtain ⟨W, rfl, hwx, HW⟩ := hcut
              subst hwx
              by_cases h46 : s[k].toNat = 46
              · have t2 : ((s[k].toNat : Nat) : Int) = 46 := by omega
                cases L <;> cases D <;> cases W
                all_goals
                  go_wp2_with fail
                  all_goals first
                    | (go_ret; exact PureIf.mk _ fun h => by cases h)
                    | (go_roundg (s.size - k)
                       case measure => omega
                       case rel => exact ⟨k + 1, by omega, by omega, by go_num, rfl, Lib.hid (HS.out (by unfold wordc; omega))⟩)
              · have t2 : (((s[k].toNat : Nat) : Int) == 46) = false := beq_eq_false_iff_ne.2 (by omega)
                have t3 : (((s[k].toNat : Nat) : Int) != 46) = true := by simp; omega
                cases L <;> cases D <;> cases W
                all_goals
                  go_wp2_with fail
                  all_goals first
                    | (go_ret; exact PureIf.mk _ fun h => by cases h)
                    | (go_roundg (s.size - k)
                       case measure => omega
                       case rel => exact ⟨k + 1, by omega, by omega, by go_num, rfl, Lib.hid (HS.out (by first | exact HW.out (by trivial) | exact Or.inl (HD.out (by trivial))))⟩)
        · go_wp2_with fail
          go_ret
          exact PureIf.mk _ fun _ => by rw [HQ.out]; exact ⟨hpos, fun j h => HN.out j h (by omega)⟩
end Go.Proofs.YtnjjhklefamaoaaDoor
