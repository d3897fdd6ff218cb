/-
  indexPlaceHolders: at a plain token, and at '$' with digits behind.
-/
import Derived.Test.YtocfcajafkkhdaaDoorAi
namespace Go.Proofs.YtocfcajafkkhdaaDoor
open Go.RowKit

/-- what a token of a destination is -/
structure Kn where
  ty : Int
  is : List Int
  arg : Int
  str : ByteArray
/-- a word as it is -/
def Kn.no : Kn := ⟨0, [-1], -1, ⟨#[]⟩⟩
/-- the wildcard n -/
def Kn.wild (n : Nat) : Kn := ⟨3, [(n : Int)], -1, ⟨#[]⟩⟩
def PhPost (k : Kn) (w : World) (e : Ending) (w' : World) : Prop :=
  ∃ g c, e = .returned (.tuple #[.int .i16 k.ty, .slice (some ⟨g, 0, none⟩) k.is.length c, .int .i32 k.arg, .string k.str, .nilIface]) ∧ Below w.heap.size w w' ∧ w.heap.size ≤ g ∧ K.Lies w' (some ⟨g, 0, none⟩) k.is.length (K.nums .i64 k.is)
theorem lies_num (w : World) (z : Int) : K.Lies (w.alloc (.cells #[.int .i64 z] 3)) (some ⟨w.heap.size, 0, none⟩) 1 (K.nums .i64 [z]) := by
  intro _
  refine ⟨_, _, rfl, by simp, fun j hj => ?_⟩
  obtain rfl : j = 0 := by omega
  rw [World.cell?_alloc_at _ _ _ _ (by simp)]; rfl
/-- a token that is no mark of a place -/
def Wordy (t : ByteArray) : Prop := t.size = 1 ∨ ∃ h : 0 < t.size, t[0] ≠ 36 ∧ t[0] ≠ 123
theorem ne_int {a b : UInt8} (h : a ≠ b) : (((a.toNat : Nat) : Int) == ((b.toNat : Nat) : Int)) = false := by
  rw [beq_eq_false_iff_ne]
  intro e
  exact h (UInt8.toNat_inj.1 (by omega))
set_option maxHeartbeats 4000000 in
set_option maxRecDepth 100000 in
theorem ph_word (t : ByteArray) (w : World) (hs : t.size ≤ 100000) (ht : Wordy t) : Calls Tryd.prog 39 #[.string t] w (PhPost Kn.no w) := by
  by_cases h1 : t.size ≤ 1
  · have h1' : ¬ (1 : Int) < (t.size : Int) := by omega
    clear ht
    go_enter Tryd.func39, Tryd.ntmps39
    go_wp2_with fail
    refine bodyPost_ret (v := .tuple #[.int .i16 0, .slice (some ⟨w.heap.size, 0, none⟩) 1 1, .int .i32 (-1), .string ⟨#[]⟩, .nilIface]) (by simp [results, Tryd.results39, go_sem]) rfl ?_
    exact ⟨_, _, rfl, (Below.refl _ _).alloc (Nat.le_refl _) _, Nat.le_refl _, lies_num w (-1)⟩
  · obtain ⟨h0, h36, h123⟩ : ∃ h : 0 < t.size, t[0] ≠ 36 ∧ t[0] ≠ 123 := by
      rcases ht with h | h
      · omega
      · exact h
    have h1' : (1 : Int) < (t.size : Int) := by omega
    have n36 : (((t[0].toNat : Nat) : Int) == 36) = false := ne_int h36
    have m36 : ¬ ((t[0].toNat : Nat) : Int) = 36 := by simpa using n36
    have n123 : (((t[0].toNat : Nat) : Int) == 123) = false := ne_int h123
    have m123 : ¬ ((t[0].toNat : Nat) : Int) = 123 := by simpa using n123
    clear h36 h123
    go_enter Tryd.func39, Tryd.ntmps39
    go_wp2_with fail
    all_goals
      refine bodyPost_ret (v := .tuple #[.int .i16 0, .slice (some ⟨w.heap.size, 0, none⟩) 1 1, .int .i32 (-1), .string ⟨#[]⟩, .nilIface]) (by simp [results, Tryd.results39, go_sem]) rfl ?_
      exact ⟨_, _, rfl, (Below.refl _ _).alloc (Nat.le_refl _) _, Nat.le_refl _, lies_num w (-1)⟩
set_option maxHeartbeats 4000000 in
set_option maxRecDepth 100000 in
theorem ph_dollar (t : ByteArray) (w : World) (hs : t.size ≤ 10) (h1 : 1 < t.size) (h36 : t[0] = 36) (hd : Digits (t.extract 1 t.size).data.toList) : Calls Tryd.prog 39 #[.string t] w (PhPost (Kn.wild (dec (t.extract 1 t.size).data.toList)) w) := by
  have h51 := atoi_any (t.extract 1 t.size) w (by rw [ByteArray.size_extract]; omega) hd
  generalize dec (t.extract 1 t.size).data.toList = n at h51 ⊢
  have e36 : ((t[0].toNat : Nat) : Int) = 36 := congrArg (fun c : UInt8 => ((c.toNat : Nat) : Int)) h36
  clear hd h36
  go_enter Tryd.func39, Tryd.ntmps39
  go_wp2_with fail
  with_reducible refine h51.mono ?_
  rintro e w1 ⟨rfl, hb1⟩
  clear h51
  go_wp2_with fail
  refine bodyPost_ret (v := .tuple #[.int .i16 3, .slice (some ⟨w1.heap.size, 0, none⟩) 1 1, .int .i32 (-1), .string ⟨#[]⟩, .nilIface]) (by simp [results, Tryd.results39, go_sem]) rfl ?_
  exact ⟨_, _, rfl, hb1.alloc hb1.size _, hb1.size, lies_num w1 n⟩
end Go.Proofs.YtocfcajafkkhdaaDoor
