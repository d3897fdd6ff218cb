/-
  A frame's head, way by way: plain.
-/
import Derived.Test.YtkkedekgniffoaaDoorFm
namespace Go.Proofs.YtkkedekgniffoaaDoor.Fr

theorem head_len {ff : Bool} {l : List UInt8} (h : l.length < 2) : head ff l = none := by
  unfold head
  rw [if_pos h]
theorem head_rsv {ff : Bool} {l : List UInt8} (h : (l.getD 0 0).toNat / 16 % 8 ≠ 0) : head ff l = none := by
  unfold head
  rw [if_pos h]
  split <;> rfl
theorem head_mask {ff : Bool} {l : List UInt8} (h : (l.getD 1 0).toNat < 128) : head ff l = none := by
  unfold head
  rw [if_pos h]
  split
  · rfl
  · split <;> rfl
theorem head_op {ff : Bool} {l : List UInt8} (h : okOp ff ((l.getD 0 0).toNat % 16) ((l.getD 1 0).toNat % 128) (decide (128 ≤ (l.getD 0 0).toNat)) = none) : head ff l = none := by
  unfold head
  rw [h]
  split
  · rfl
  · split
    · rfl
    · split <;> rfl
theorem head_ext {ff : Bool} {l : List UInt8} (h : ext ((l.getD 1 0).toNat % 128) (l.drop 2) = none) : head ff l = none := by
  unfold head
  rw [h]
  split
  · rfl
  · split
    · rfl
    · split
      · rfl
      · split <;> rfl
theorem head_key {ff : Bool} {l : List UInt8} {rem : Nat} {l2 : List UInt8} (h : ext ((l.getD 1 0).toNat % 128) (l.drop 2) = some (rem, l2)) (h4 : l2.length < 4) : head ff l = none := by
  unfold head
  rw [h]
  split
  · rfl
  · split
    · rfl
    · split
      · rfl
      · split
        · rfl
        · simp [h4]
theorem head_some {ff f : Bool} {l : List UInt8} {rem : Nat} {l2 : List UInt8} (h2 : 2 ≤ l.length) (hr : (l.getD 0 0).toNat / 16 % 8 = 0) (hm : 128 ≤ (l.getD 1 0).toNat)
    (ho : okOp ff ((l.getD 0 0).toNat % 16) ((l.getD 1 0).toNat % 128) (decide (128 ≤ (l.getD 0 0).toNat)) = some f) (h : ext ((l.getD 1 0).toNat % 128) (l.drop 2) = some (rem, l2)) (h4 : 4 ≤ l2.length) :
    head ff l = some ⟨(l.getD 0 0).toNat % 16, rem, f, l2.take 4, l2.drop 4⟩ := by
  unfold head
  rw [ho, h, if_neg (by omega), if_neg (by omega), if_neg (by omega)]
  simp only
  rw [if_neg (by omega)]
/-- a frame of data: its head has been read -/
theorem step_data {ff : Bool} {rem kp : Nat} {key l : List UInt8} {h : Hd} (hh : head ff l = some h) (ho : h.op < 8) : step ⟨true, ff, rem, key, kp⟩ l = some ([], ⟨false, h.ff, h.rem, h.key, 0⟩, h.rest) := by
  simp [step, hh, afterHead, show ¬ 8 ≤ h.op from by omega]
/-- a ping or a pong has been read -/
theorem step_ping {ff : Bool} {rem kp : Nat} {key l : List UInt8} {h : Hd} (hh : head ff l = some h) (ho : 8 ≤ h.op) (h8 : h.op ≠ 8) (hr : h.rem ≤ h.rest.length) :
    step ⟨true, ff, rem, key, kp⟩ l = some ([], ⟨true, h.ff, 0, h.key, h.rem % 4⟩, h.rest.drop h.rem) := by
  simp [step, hh, afterHead, ho, h8, show ¬ h.rest.length < h.rem from by omega]
/-- a control frame that is not whole, or a close frame -/
theorem step_end {ff : Bool} {rem kp : Nat} {key l : List UInt8} {h : Hd} (hh : head ff l = some h) (ho : 8 ≤ h.op) (hr : h.rest.length < h.rem ∨ h.op = 8) : step ⟨true, ff, rem, key, kp⟩ l = none := by
  rcases hr with hr | hr
  · simp [step, hh, afterHead, ho, hr]
  · by_cases h2 : h.rest.length < h.rem
    · simp [step, hh, afterHead, ho, h2]
    · simp [step, hh, afterHead, hr, h2]
theorem fin_short {ff : Bool} {rem kp : Nat} {key l : List UInt8} {h : Hd} (hl : l ≠ []) (hh : head ff l = some h) (hr : h.rest.length < h.rem) : fin ⟨true, ff, rem, key, kp⟩ l = .err := by
  simp [fin, hh, hl, show ¬ h.rem ≤ h.rest.length from by omega]
theorem fin_close {ff : Bool} {rem kp : Nat} {key l : List UInt8} {h : Hd} (hl : l ≠ []) (hh : head ff l = some h) (h8 : h.op = 8) (hr : h.rem ≤ h.rest.length) : fin ⟨true, ff, rem, key, kp⟩ l = closing (unm h.key 0 (h.rest.take h.rem)) := by
  simp [fin, hh, hl, h8, hr]

/-! ## What may stand -/
theorem okOp_ctl {ff fi : Bool} {op rem : Nat} (ho : op = 8 ∨ op = 9 ∨ op = 10) : okOp ff op rem fi = if 125 < rem then none else if fi then some ff else none := by
  unfold okOp
  rw [if_pos ho]
theorem okOp_data {ff fi : Bool} {op rem : Nat} (ho : op = 1 ∨ op = 2) : okOp ff op rem fi = if ff then some fi else none := by
  unfold okOp
  rw [if_neg (by omega), if_pos ho]
theorem okOp_cont {ff fi : Bool} {rem : Nat} : okOp ff 0 rem fi = if ff then none else some fi := by
  unfold okOp
  rw [if_neg (by omega), if_neg (by omega), if_pos rfl]
theorem okOp_none {ff fi : Bool} {op rem : Nat} (h : ¬ (op = 0 ∨ op = 1 ∨ op = 2 ∨ op = 8 ∨ op = 9 ∨ op = 10)) : okOp ff op rem fi = none := by
  unfold okOp
  rw [if_neg (by omega), if_neg (by omega), if_neg (by omega)]
theorem okOp_rem {ff fi f : Bool} {op rem : Nat} (h : okOp ff op rem fi = some f) (h8 : 8 ≤ op) : rem ≤ 125 ∧ (op = 8 ∨ op = 9 ∨ op = 10) := by
  unfold okOp at h
  split at h
  · rename_i ho
    split at h
    · cases h
    · exact ⟨by omega, ho⟩
  · split at h
    · omega
    · split at h
      · omega
      · cases h
/-- a data frame's length may be any; a control frame's is as it stands -/
theorem ext_rem {n : Nat} {l l2 : List UInt8} {rem : Nat} (h : ext n l = some (rem, l2)) (hn : n ≤ 125) : rem = n ∧ l2 = l := by
  unfold ext at h
  rw [if_neg (by omega), if_neg (by omega)] at h
  cases h
  exact ⟨rfl, rfl⟩
theorem ext_len {n : Nat} {l l2 : List UInt8} {rem : Nat} (h : ext n l = some (rem, l2)) : l2.length ≤ l.length := by
  unfold ext at h
  split at h
  · split at h
    · cases h; simp
    · cases h
  · split at h
    · split at h
      · split at h
        · cases h; simp
        · cases h
      · cases h
    · cases h; exact Nat.le_refl _
end Go.Proofs.YtkkedekgniffoaaDoor.Fr
