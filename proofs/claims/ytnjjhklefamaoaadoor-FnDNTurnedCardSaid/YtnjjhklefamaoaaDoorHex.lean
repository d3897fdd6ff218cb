/-
  zzDigit and zzHex on hexadecimal digits.
-/
import Derived.Test.YtnjjhklefamaoaaDoorState
namespace Go.Proofs.YtnjjhklefamaoaaDoor
open Go.RowKit
open Dn (Attr Name)

theorem or16 (x y : Nat) (hx : x < 16) (hy : y < 16) : bits .or .i64 ((x : Int) * 16) (y : Int) % 256 = ((x * 16 + y : Nat) : Int) := by
  have h : ∀ a b : Fin 16, bits .or .i64 ((a.val : Int) * 16) (b.val : Int) % 256 = ((a.val * 16 + b.val : Nat) : Int) := by decide +kernel
  exact h ⟨x, hx⟩ ⟨y, hy⟩
theorem ret_i {k : IntKind} {a b : Int} (h : a = b) : Ending.returned (.int k a) = .returned (.int k b) := by rw [h]

set_option maxHeartbeats 2000000 in
set_option maxRecDepth 100000 in
theorem digit_any (c : UInt8) (x : Nat) (w : World) (h : Dn.hexv c = some x) : Calls Tryd.prog 45 #[.int .u8 c.toNat] w (fun e w' => e = .returned (.int .i64 x) ∧ w = w') := by
  have hc := c.toNat_lt
  generalize hn : c.toNat = n at *
  unfold Dn.hexv at h
  rw [hn] at h
  clear hn
  by_cases h1 : 48 ≤ n ∧ n ≤ 57
  · rw [if_pos h1] at h
    simp at h
    obtain ⟨a, b⟩ := h1
    have HX := Lib.hid h
    clear h
    go_enter Tryd.func45, Tryd.ntmps45
    go_wp2_with fail
    go_ret
    exact ⟨ret_i (by rw [← HX.out]; omega), rfl⟩
  · rw [if_neg h1] at h
    by_cases h2 : 97 ≤ n ∧ n ≤ 102
    · rw [if_pos h2] at h
      simp at h
      obtain ⟨a, b⟩ := h2
      have HX := Lib.hid h
      clear h h1
      go_enter Tryd.func45, Tryd.ntmps45
      go_wp2_with fail
      go_ret
      exact ⟨ret_i (by rw [← HX.out]; omega), rfl⟩
    · rw [if_neg h2] at h
      by_cases h3 : 65 ≤ n ∧ n ≤ 70
      · rw [if_pos h3] at h
        simp at h
        obtain ⟨a, b⟩ := h3
        have HX := Lib.hid h
        clear h h1 h2
        go_enter Tryd.func45, Tryd.ntmps45
        go_wp2_with fail
        go_ret
        exact ⟨ret_i (by rw [← HX.out]; omega), rfl⟩
      · rw [if_neg h3] at h
        cases h

set_option maxHeartbeats 2000000 in
set_option maxRecDepth 100000 in
theorem hex_any (b c : Nat) (s : ByteArray) (x y : Nat) (o : UInt8) (w : World) (hs : s.size = 2) (h0 : Dn.hexv (s[0]'(by omega)) = some x) (h1 : Dn.hexv (s[1]'(by omega)) = some y) (hb : w.heap[b]? = some (.cells #[.int .u8 o.toNat] 5 (0, 0))) :
    Calls Tryd.prog 36 #[.slice (some ⟨b, 0, none⟩) 1 c, .string s] w (fun e w' => e = .returned (.tuple #[.int .i64 1, .nilIface]) ∧ ∃ n, w' = (w.drewN n).setCell ⟨b, 0, none⟩ (.int .u8 ((x * 16 + y : Nat) : Int))) := by
  have hx := Dn.hexv_lt h0
  have hy := Dn.hexv_lt h1
  have H0 := Lib.hid h0
  have H1 := Lib.hid h1
  have fz : w.frozen? ⟨b, 0, none⟩ = false := by simp [World.frozen?, hb]
  have d0 : w.cell? ⟨b, 0, none⟩ = some (.int .u8 o.toNat) := by simp [World.cell?, hb]
  clear h0 h1 hb
  go_enter Tryd.func36, Tryd.ntmps36
  go_wp2_with fail
  go_quiet ((first | (go_at_call 45; with_reducible refine Calls.quiet_of_same ((digit_any _ x _ H0.out).mono fun _ _ h => ⟨h.1, h.2.symm⟩)) | (go_at_call 45; with_reducible refine Calls.quiet_of_same ((digit_any _ y _ H1.out).mono fun _ _ h => ⟨h.1, h.2.symm⟩))))
  go_wp2_with fail
  go_ret2
  exact ⟨rfl, nq, by rw [or16 x y hx hy]⟩
end Go.Proofs.YtnjjhklefamaoaaDoor
