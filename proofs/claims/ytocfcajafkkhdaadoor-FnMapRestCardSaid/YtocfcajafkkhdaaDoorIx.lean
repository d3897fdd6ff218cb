/-
  zzIndex at a mark of one byte: its first place, or -1.
-/
import Derived.Test.YtocfcajafkkhdaaDoorTk
import Derived.Test.YtocfcajafkkhdaaDoorKit
import Derived.Test.YtocfcajafkkhdaaDoorChecked
import Derived.IntWalk
namespace Go.Proofs.YtocfcajafkkhdaaDoor
open Go.RowKit

theorem beq_lists (a b : ByteArray) : (a.toList == b.toList) = decide (a = b) := by
  rw [ByteArray.toList_eq, ByteArray.toList_eq, Bool.eq_iff_iff, beq_iff_eq, decide_eq_true_eq]
  constructor
  · intro h
    exact ByteArray.ext (Array.ext' h)
  · rintro rfl; rfl
theorem ext1 (s : ByteArray) (k : Nat) (h : k < s.size) : s.extract k (k + 1) = ⟨#[s[k]]⟩ := by
  rw [Lib.extract_eq, show k + 1 - k = 1 from by omega, List.drop_eq_getElem_cons (by simpa using h)]
  rfl
theorem one_beq (s : ByteArray) (k : Nat) (h : k < s.size) (c : UInt8) : ((s.extract k (k + 1)).toList == [c]) = decide (s[k] = c) := by
  have e : ([c] : List UInt8) = (⟨#[c]⟩ : ByteArray).toList := (ByteArray.toList_eq (⟨#[c]⟩ : ByteArray)).symm
  rw [e, ext1 s k h, beq_lists]
  simp
/-- where the mark stands first -/
def IxPost (c : UInt8) (s : ByteArray) (w : World) (e : Ending) (w' : World) : Prop :=
  w = w' ∧ ((∃ k : Nat, k < s.size ∧ s.data.toList[k]? = some c ∧ (∀ j, j < k → s.data.toList[j]? ≠ some c) ∧ e = .returned (.int .i64 k)) ∨
    ((∀ j : Nat, s.data.toList[j]? ≠ some c) ∧ e = .returned (.int .i64 (-1))))
theorem get_at {s : ByteArray} {k : Nat} (h : k < s.size) : s.data.toList[k]? = some s[k] := by
  rw [List.getElem?_eq_getElem (by simpa using h)]; rfl
set_option maxRecDepth 100000 in
theorem index_any (c : UInt8) (s : ByteArray) (w : World) (hs : s.size ≤ 100000) : Calls Tryd.prog 48 #[.string s, .string ⟨#[c]⟩] w (IxPost c s w) := by

  have hl : (⟨#[c]⟩ : ByteArray).size = 1 := rfl
  go_enter Tryd.func48, Tryd.ntmps48
  go_wp2
  go_loop [5] (fun i => ∃ k : Nat, k ≤ s.size ∧ i = .int .i64 k ∧ Hid (∀ j, j < k → s.data.toList[j]? ≠ some c)) (fun i => s.size - (intOf i).toNat)
  case atStart => exact ⟨0, Nat.zero_le _, rfl, Lib.hid (fun j hj => by omega)⟩
  case round =>
    obtain ⟨k, hk, rfl, hN⟩ := hrel
    by_cases hlt : k < s.size
    · have hb := one_beq s k hlt c
      have b0 : (0 : Int) ≤ (k : Int) := by omega
      have b1 : (k : Int) ≤ (k : Int) + 1 := by omega
      have b2 : (k : Int) + 1 ≤ (s.size : Int) := by omega
      by_cases hc : s[k] = c
      · rw [decide_eq_true hc] at hb
        go_wp2_with fail
        go_ret
        exact ⟨rfl, .inl ⟨k, hlt, by rw [get_at hlt, hc], hN.out, rfl⟩⟩
      · rw [decide_eq_false hc] at hb
        go_wp2_with fail
        go_round
        case rel => exact ⟨k + 1, by omega, by go_num, Lib.hid (fun j hj => by
          rcases Nat.lt_or_ge j k with h | h
          · exact hN.out j h
          · obtain rfl : j = k := by omega
            rw [get_at hlt]
            exact fun e => hc (Option.some.inj e))⟩
        case measure => simp [intOf]; omega
    · have h1 : ¬ ((k : Int) + 1 ≤ (s.size : Int)) := by omega
      go_wp2_with fail
      go_ret
      refine ⟨rfl, .inr ⟨fun j => ?_, rfl⟩⟩
      rcases Nat.lt_or_ge j k with h | h
      · exact hN.out j h
      · rw [List.getElem?_eq_none (by simp; omega)]
        exact fun e => by cases e
end Go.Proofs.YtocfcajafkkhdaaDoor
