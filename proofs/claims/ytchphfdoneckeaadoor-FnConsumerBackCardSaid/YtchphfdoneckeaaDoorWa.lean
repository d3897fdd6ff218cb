/-
  spec.waitAt: the place of a message that waits.
-/
import Derived.Test.YtchphfdoneckeaaDoorSk
namespace Go.Proofs.YtchphfdoneckeaaDoor
open Go.RowKit
open Cs (Wt Kp)

def wzf (s : Nat) : List Wt → Int → Int
  | [], _ => -1
  | x :: l, i => if x.s = s then i else wzf s l (i + 1)
theorem wzf_mem {s : Nat} : ∀ (l : List Wt) (i : Int), 0 ≤ wzf s l i → ∃ y ∈ l, y.s = s
  | [], i, h => by simp [wzf] at h
  | x :: l, i, h => by
    unfold wzf at h
    split at h
    · rename_i e; exact ⟨x, by simp, e⟩
    · obtain ⟨y, hy, e⟩ := wzf_mem l (i + 1) h
      exact ⟨y, List.mem_cons_of_mem _ hy, e⟩
theorem wzf_drop {s : Nat} {l : List Wt} {j : Nat} (hj : j < l.length) : wzf s (l.drop j) (j : Int) = if l[j].s = s then (j : Int) else wzf s (l.drop (j + 1)) ((j : Int) + 1) := by
  rw [List.drop_eq_getElem_cons hj]; rfl
set_option maxRecDepth 100000 in
theorem waitAt_any (A : Option Addr) (n cap s : Nat) (l : List Wt) (w : World) (hW : WAt w A l) (hl : l.length = n) (hn : n ≤ 12) :
    Calls Tryd.prog 20 #[.slice A n cap, .int .u64 (s : Int)] w fun e w' => e = .returned (.int .i64 (wzf s l 0)) ∧ w' = w := by
  have HL := Lib.hid (And.intro hl hW)
  clear hl hW
  go_enter Tryd.func20, Tryd.ntmps20
  go_wp2_with fail
  go_loopw [5] (fun i wr => ∃ j : Nat, j ≤ n ∧ i = .int .i64 (j : Int) ∧ Hid (wr = w ∧ wzf s l 0 = wzf s (l.drop j) (j : Int))) (fun i _ => n - (intOf i).toNat)
  case atStart => exact ⟨0, by omega, rfl, Lib.hid ⟨rfl, rfl⟩⟩
  case round =>
    obtain ⟨j, hj, rfl, HR⟩ := hrel
    by_cases hlt : j < n
    · have hjl : j < l.length := by rw [HL.out.1]; exact hlt
      have hW := HL.out.2
      rw [← HR.out.1] at hW
      obtain ⟨b1, o1, rfl, a0, a1, a2⟩ := hW.get hjl
      have hd := wzf_drop (s := s) hjl
      obtain ⟨x, hx⟩ : ∃ x, l[j] = x := ⟨_, rfl⟩
      rw [hx] at a0 hd
      have hj0 : (0 : Int) ≤ (j : Int) := by omega
      have hj1 : (j : Int) < (n : Int) := by omega
      have HJ := Lib.hid (And.intro hlt hd)
      clear hlt a1 a2 hW hx hd hjl
      by_cases h : x.s = s
      · have HX := Lib.hid h
        subst h
        go_wp2_with fail
        go_ret
        have e1 := HJ.out.2
        simp only [if_true] at e1
        exact ⟨congrArg (fun v => Ending.returned (.int .i64 v)) (HR.out.2.trans e1).symm, HR.out.1⟩
      · have HX := Lib.hid h
        go_wp2_with fail
        have hlt := HJ.out.1
        have e1 := HJ.out.2
        rw [if_neg HX.out] at e1
        exact ⟨⟨j + 1, by omega, by go_num, Lib.hid ⟨HR.out.1, by rw [HR.out.2, e1]; push_cast; rfl⟩⟩, by simp [intOf]; omega⟩
    · obtain rfl : j = n := by omega
      have e1 := HR.out.2
      rw [List.drop_of_length_le (by rw [HL.out.1]; omega)] at e1
      have HE := Lib.hid e1
      clear hlt e1
      go_wp2_with fail
      go_ret
      exact ⟨by rw [HE.out]; rfl, HR.out.1⟩
end Go.Proofs.YtchphfdoneckeaaDoor
