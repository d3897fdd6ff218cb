/-
  Texts of names: ascii and confPlain answer some bool; dnLower gives the small letters; dnSame compares two attributes by their keys; dnHas.
-/
import Derived.Test.YtnjjhklefamaoaaDoorFits
namespace Go.Proofs.YtnjjhklefamaoaaDoor
open Go.RowKit
open Dn (Attr Name)

/-- some bool; nothing is turned -/
def SomeB (w : World) (e : Ending) (w' : World) : Prop := ∃ b : Bool, e = .returned (.bool b) ∧ w = w'
theorem SomeB.mk0 {w : World} (b : Bool) : SomeB w (.returned (.bool b)) w := ⟨b, rfl, rfl⟩

set_option maxRecDepth 100000 in
theorem ascii_any (s : ByteArray) (w : World) (hs : s.size ≤ 1000000) : Calls Tryd.prog 21 #[.string s] w (SomeB w) := by
  go_enter Tryd.func21, Tryd.ntmps21
  go_wp2_with fail
  go_loop [3] (fun i => ∃ k : Nat, k ≤ s.size ∧ i = .int .i64 k) (fun i => s.size - (intOf i).toNat)
  case atStart => exact ⟨0, by omega, rfl⟩
  case round =>
    obtain ⟨k, hk, rfl⟩ := hrel
    by_cases hlt : k < s.size
    · go_wp2_with fail
      · go_ret; exact SomeB.mk0 _
      · go_round
        case rel => exact ⟨k + 1, by omega, by go_num⟩
        case measure => simp [intOf]; omega
    · go_wp2_with fail
      go_ret; exact SomeB.mk0 _

def confB (s : ByteArray) : Bool := Dn.allB s.size fun j => decide (32 ≤ (s.data.toList.getD j 0).toNat) && decide ((s.data.toList.getD j 0).toNat ≤ 126)
theorem getD_at (s : ByteArray) (k : Nat) (h : k < s.size) : s.data.toList.getD k 0 = s[k] := by
  have hk : k < s.data.toList.length := by rw [K.bsize]; exact h
  rw [List.getD, List.getElem?_eq_getElem hk]; rfl
theorem conf_no {s : ByteArray} {k : Nat} (h : k < s.size) (e : ((s[k].toNat : Nat) : Int) < 32 ∨ 126 < ((s[k].toNat : Nat) : Int)) : confB s = false := by
  refine Dn.allB_false h ?_
  rw [getD_at s k h]
  rcases e with e | e
  · rw [decide_eq_false (by omega)]; rfl
  · rw [Bool.and_eq_false_iff]; right; exact decide_eq_false (by omega)
theorem ret_bool {a b : Bool} (h : a = b) : Ending.returned (.bool a) = .returned (.bool b) := by rw [h]
def Is (b : Bool) (w : World) (e : Ending) (w' : World) : Prop := e = .returned (.bool b) ∧ w = w'

set_option maxRecDepth 100000 in
theorem confPlain_any (s : ByteArray) (w : World) (hs : s.size ≤ 1000000) : Calls Tryd.prog 46 #[.string s, .string ⟨#[]⟩] w (Is (confB s) w) := by
  obtain ⟨b, hb⟩ : ∃ b, b = confB s := ⟨_, rfl⟩
  rw [← hb]
  have HB := Lib.hid hb
  clear hb
  go_enter Tryd.func46, Tryd.ntmps46
  go_wp2_with fail
  go_loopg [5, 6] (s.size + 1) (fun gk i _j wr => ∃ k : Nat, k ≤ s.size ∧ gk = s.size + 1 - k ∧ i = .int .i64 k ∧ wr = w ∧ Hid (∀ j (h : j < s.size), j < k → 32 ≤ s[j].toNat ∧ s[j].toNat ≤ 126))
  case atStart => exact ⟨0, by omega, by omega, rfl, rfl, Lib.hid fun j _ h => by omega⟩
  case round =>
    obtain ⟨k, hk, hg, rfl, rfl, HN⟩ := hrel
    by_cases hlt : k < s.size
    · go_wp2_with fail
      · go_ret; exact ⟨ret_bool (by rw [HB.out]; exact (conf_no hlt (by omega)).symm), rfl⟩
      · have ht : 32 ≤ ((s[k].toNat : Nat) : Int) ∧ ((s[k].toNat : Nat) : Int) ≤ 126 := by assumption
        obtain ⟨wo, hwo⟩ : ∃ wo : World, wo = wr := ⟨_, rfl⟩
        subst hwo
        go_loopg [6] 1 (fun _ j wi => j = .int .i64 0 ∧ wi = wo)
        case atStart => exact ⟨rfl, rfl⟩
        case round =>
          obtain ⟨rfl, rfl⟩ := hrel
          go_wp2_with fail
          go_roundg (s.size - k)
          case measure => omega
          case rel =>
            refine ⟨k + 1, by omega, by omega, by go_num, rfl, Lib.hid fun j h hj => ?_⟩
            rcases Nat.lt_or_ge j k with h1 | h1
            · exact HN.out j h h1
            · have : j = k := by omega
              subst this; omega
      · go_ret; exact ⟨ret_bool (by rw [HB.out]; exact (conf_no hlt (by omega)).symm), rfl⟩
    · go_wp2_with fail
      have hk' : k = s.size := by omega
      go_ret
      refine ⟨ret_bool ?_, rfl⟩
      rw [HB.out]
      refine (Dn.allB_iff.2 fun j hj => ?_).symm
      rw [getD_at s j hj]
      have := HN.out j hj (by omega)
      simp; exact this

theorem underlyings : Tryd.prog.underlying 9 = some .string ∧ Tryd.prog.underlying 33 = some (.slice 5) ∧ Tryd.prog.underlying 5 = some (.int .u8) := ⟨by kernel_rfl, by kernel_rfl, by kernel_rfl⟩
/-- string([]byte{x}) -/
theorem conv_one (W : World) (x : Int) : (convert 33 9 (.slice (some ⟨W.heap.size, 0, none⟩) 1 1)).run Tryd.prog (W.alloc (.cells #[.int .u8 x] 5)) = .ok (.string (strOfNums [x])) (W.alloc (.cells #[.int .u8 x] 5)) := by
  refine run_convert_bytes_arg _ 33 5 underlyings.2.1 underlyings.2.2 W.heap.size 0 1 1 [x] rfl (fun i hi => ?_) 9 underlyings.1
  have : i = 0 := by omega
  subst this
  rw [World.cell?_alloc_at _ _ _ _ (by simp)]; rfl
theorem nb (x : Int) : (strOfNums [x]).size = 1 := strOfNums_size [x]

def lowS (l : List UInt8) : ByteArray := ⟨(l.map Dn.low).toArray⟩
theorem lowS_snoc (l : List UInt8) (c : UInt8) : lowS (l ++ [c]) = lowS l ++ ⟨#[Dn.low c]⟩ := by
  unfold lowS
  rw [List.map_append]
  apply ByteArray.ext
  simp
theorem sn_low (c : UInt8) (x : Int) (h : x = ((Dn.low c).toNat : Int)) : strOfNums [x] = ⟨#[Dn.low c]⟩ := by
  rw [h]
  apply ByteArray.ext
  simp [strOfNums]
theorem lowS_size (l : List UInt8) : (lowS l).size = l.length := by
  show (lowS l).data.size = _
  simp [lowS]
theorem take_snoc (s : ByteArray) (k : Nat) (h : k < s.size) : s.data.toList.take (k + 1) = s.data.toList.take k ++ [s[k]] := by
  rw [List.take_succ_eq_append_getElem (by simpa using h)]; rfl
theorem low_in (c : UInt8) (h : 65 ≤ (c.toNat : Int) ∧ (c.toNat : Int) ≤ 90) : (c.toNat : Int) + 32 = ((Dn.low c).toNat : Int) := by
  have : Dn.low c = c + 32 := by unfold Dn.low; rw [if_pos]; exact ⟨by rw [UInt8.le_iff_toNat_le]; simp; omega, by rw [UInt8.le_iff_toNat_le]; simp; omega⟩
  rw [this, UInt8.toNat_add]; simp; omega
theorem low_out (c : UInt8) (h : ¬ (65 ≤ (c.toNat : Int) ∧ (c.toNat : Int) ≤ 90)) : (c.toNat : Int) = ((Dn.low c).toNat : Int) := by
  have : Dn.low c = c := by unfold Dn.low; rw [if_neg]; rintro ⟨h1, h2⟩; apply h; rw [UInt8.le_iff_toNat_le] at h1 h2; simp at h1 h2; omega
  rw [this]

def LowPost (s : ByteArray) (w : World) (e : Ending) (w' : World) : Prop := e = .returned (.string ⟨(Dn.lows s).toArray⟩) ∧ Below w.heap.size w w'

set_option maxRecDepth 100000 in
theorem dnLower_any (s : ByteArray) (w : World) (hs : s.size ≤ 1000000) : Calls Tryd.prog 51 #[.string s] w (LowPost s w) := by
  have hst := conv_one
  go_enter Tryd.func51, Tryd.ntmps51
  go_wp2_with fail
  go_loopw [3, 4] (fun o i wr => ∃ k : Nat, k ≤ s.size ∧ i = .int .i64 k ∧ o = .string (lowS (s.data.toList.take k)) ∧ Below w.heap.size w wr) (fun _ i _ => s.size - (intOf i).toNat)
  case atStart => exact ⟨0, by omega, rfl, rfl, Below.refl _ _⟩
  case round =>
    obtain ⟨k, hk, rfl, rfl, hb⟩ := hrel
    have HB := Lib.hid hb
    clear hb
    by_cases hlt : k < s.size
    · have hsn := take_snoc s k hlt
      have HS := Lib.hid hsn
      have hz : (lowS (s.data.toList.take k)).size = k := by rw [lowS_size, List.length_take, K.bsize]; omega
      have HZ := Lib.hid hz
      have hz1 : (lowS (s.data.toList.take k)).size ≤ 1000000 := by omega
      have hone : ∀ x : Int, (strOfNums [x]).size = 1 := nb
      clear hsn hz
      by_cases hlo : 65 ≤ (s[k].toNat : Int) ∧ (s[k].toNat : Int) ≤ 90
      · obtain ⟨hl1, hl2⟩ := hlo
        have e := Lib.hid (low_in s[k] ⟨hl1, hl2⟩)
        go_wp2_with fail
        go_roundw
        case rel => exact ⟨k + 1, by omega, by go_num, by rw [HS.out, lowS_snoc, ← sn_low _ _ e.out], HB.out.alloc HB.out.size _⟩
        case measure => simp [intOf]; omega
      · have e := Lib.hid (low_out s[k] hlo)
        go_wp2_with fail
        all_goals
          go_roundw
          case rel => exact ⟨k + 1, by omega, by go_num, by rw [HS.out, lowS_snoc, ← sn_low _ _ e.out], HB.out.alloc HB.out.size _⟩
          case measure => simp [intOf]; omega
    · have hk' : k = s.size := by omega
      have HK := Lib.hid hk'
      clear hk'
      go_wp2_with fail
      go_ret
      refine ⟨?_, HB.out⟩
      rw [HK.out, List.take_of_length_le (by rw [K.bsize]; omega)]
      rfl
end Go.Proofs.YtnjjhklefamaoaaDoor
