/-
  parseInt, Atoi and ParseInt at a text of at most nine digits.
-/
import Derived.Test.YtocfcajafkkhdaaDoorAt
import Derived.Deep.Cut
namespace Go.Proofs.YtocfcajafkkhdaaDoor
open Go.RowKit
/-- a number is read -/
def IntPost (n : Nat) (w : World) (e : Ending) (w' : World) : Prop := e = .returned (.tuple #[.int .i64 n, .nilIface]) ∧ Below w.heap.size w w'
theorem Digits.first {s : ByteArray} (hd : Digits s.data.toList) : ∃ h : 0 < s.size, 48 ≤ s[0].toNat ∧ s[0].toNat ≤ 57 := by
  have h : 0 < s.size := by rw [← K.bsize]; exact List.length_pos_iff.2 hd.1
  exact ⟨h, hd.2 _ (mem_get h)⟩
theorem Digits.lt {s : ByteArray} (hs : s.size ≤ 9) (hd : Digits s.data.toList) : dec s.data.toList < 1000000000 :=
  Nat.lt_of_lt_of_le (dec_lt s.size _ (K.bsize s) hd.2) (by have : (10 : Nat) ^ s.size ≤ 10 ^ 9 := Nat.pow_le_pow_right (by omega) hs; omega)
set_option maxHeartbeats 4000000 in
set_option maxRecDepth 100000 in
theorem int_any (s : ByteArray) (b : Int) (hb : b = 0 ∨ b = 32) (w : World) (hs : s.size ≤ 9) (hd : Digits s.data.toList) : Calls Tryd.prog 63 #[.string s, .int .i64 10, .int .i64 b] w (IntPost (dec s.data.toList) w) := by
  have e1 : s.toList.isEmpty = false := by
    rw [ByteArray.toList_eq]
    exact List.isEmpty_eq_false_iff.2 hd.1
  have h73 := uint_any s b hb w hs hd
  have hlt := hd.lt hs
  obtain ⟨h0, hc1, hc2⟩ := hd.first
  have n45 : (((s[0].toNat : Nat) : Int) == 45) = false := by rw [beq_eq_false_iff_ne]; omega
  have n43 : (((s[0].toNat : Nat) : Int) == 43) = false := by rw [beq_eq_false_iff_ne]; omega
  generalize dec s.data.toList = n at h73 hlt ⊢
  clear hd
  rcases hb with rfl | rfl
  · go_enter Tryd.func63, Tryd.ntmps63
    go_wp2_with fail
    with_reducible refine h73.mono ?_
    rintro e w1 ⟨rfl, hb1⟩
    clear h73
    go_upto_region 12 with (fail)
    obtain ⟨C, hC, hC1⟩ : ∃ C : Int, (9223372036854775808 : Int) = C ∧ 1000000000 ≤ C := ⟨_, rfl, by decide⟩
    rw [hC]
    clear hC
    have hnC : (n : Int) < C := by omega
    go_wp2_with fail
    go_ret2
    exact ⟨rfl, hb1⟩
  · go_enter Tryd.func63, Tryd.ntmps63
    go_wp2_with fail
    with_reducible refine h73.mono ?_
    rintro e w1 ⟨rfl, hb1⟩
    clear h73
    go_upto_region 12 with (fail)
    obtain ⟨C, hC, hC1⟩ : ∃ C : Int, (2147483648 : Int) = C ∧ 1000000000 ≤ C := ⟨_, rfl, by decide⟩
    rw [hC]
    clear hC
    have hnC : (n : Int) < C := by omega
    go_wp2_with fail
    go_ret2
    exact ⟨rfl, hb1⟩
set_option maxRecDepth 100000 in
theorem atoi_any (s : ByteArray) (w : World) (hs : s.size ≤ 9) (hd : Digits s.data.toList) : Calls Tryd.prog 51 #[.string s] w (IntPost (dec s.data.toList) w) := by
  have h63 := int_any s 0 (.inl rfl) w hs hd
  have hlt := hd.lt hs
  generalize dec s.data.toList = n at h63 hlt ⊢
  clear hd
  go_enter Tryd.func51, Tryd.ntmps51
  go_wp2_with fail
  with_reducible refine h63.mono ?_
  rintro e w1 ⟨rfl, hb1⟩
  clear h63
  go_wp2_with fail
  go_ret2
  exact ⟨rfl, hb1⟩
set_option maxRecDepth 100000 in
theorem parse32_any (s : ByteArray) (w : World) (hs : s.size ≤ 9) (hd : Digits s.data.toList) : Calls Tryd.prog 67 #[.string s, .int .i64 10, .int .i64 32] w (IntPost (dec s.data.toList) w) := by
  have h63 := int_any s 32 (.inr rfl) w hs hd
  have hlt := hd.lt hs
  generalize dec s.data.toList = n at h63 hlt ⊢
  clear hd
  go_enter Tryd.func67, Tryd.ntmps67
  go_wp2_with fail
  with_reducible refine h63.mono ?_
  rintro e w1 ⟨rfl, hb1⟩
  clear h63
  go_wp2_with fail
  go_ret2
  exact ⟨rfl, hb1⟩
end Go.Proofs.YtocfcajafkkhdaaDoor
