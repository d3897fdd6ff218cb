/-
  How the reading of a frame's head ends: an error, data to come, a control frame.
-/
import Derived.Test.YtkkedekgniffoaaDoorLp
import Derived.Test.YtkkedekgniffoaaDoorFh
namespace Go.Proofs.YtkkedekgniffoaaDoor
open Go.RowKit

theorem ext_lt {n : Nat} {l l2 : List UInt8} {rem : Nat} (h : Fr.ext n l = some (rem, l2)) (hn : n < 128) : rem < 9223372036854775808 := by
  unfold Fr.ext at h
  split at h
  · split at h
    · rename_i hl
      cases h
      have h1 := beNat_lt (l.take 2) 0
      rw [List.length_take, Nat.min_eq_left hl] at h1
      have h2 : Fr.be (l.take 2) < 65536 := by simpa [Fr.be, Lib.beNat] using h1
      omega
    · cases h
  · split at h
    · split at h
      · split at h
        · rename_i hb
          cases h
          exact hb
        · cases h
      · cases h
    · cases h
      omega
theorem head_facts {ff : Bool} {l : List UInt8} {h : Fr.Hd} (hh : Fr.head ff l = some h) : h.rest.length + 6 ≤ l.length ∧ h.rem < 9223372036854775808 ∧ h.op < 16 := by
  unfold Fr.head at hh
  split at hh
  · cases hh
  · rename_i h2
    split at hh
    · cases hh
    · split at hh
      · cases hh
      · split at hh
        · cases hh
        · split at hh
          · cases hh
          · rename_i rem l2 he
            split at hh
            · cases hh
            · rename_i h4
              cases hh
              have h5 := Fr.ext_len he
              have h6 := ext_lt he (Nat.mod_lt _ (by decide))
              simp only [List.length_drop] at h5 ⊢
              exact ⟨by omega, h6, Nat.mod_lt _ (by decide)⟩

section
variable {E : Nm} {g o m M : Nat} {L0 : List UInt8} {x : World} {pos a : Nat} {F : List Pc} {r : RdV} {kv : Value} {nk : Nat} {B : List UInt8} {D : List Ch} {outs : List Value} {ov : Value}
theorem Inv.st (hI : Inv E g o m M L0 x pos a F r kv nk B D outs ov) (hfs : r.fs = true) : Fr.Reach Fr.start L0 (joinD D) ⟨true, r.ff, r.rem, r.key, r.kp⟩ (rest B (o + pos) F) := by
  have h := hI.2.2.2.1
  have e : stOf r = ⟨true, r.ff, r.rem, r.key, r.kp⟩ := by unfold stOf; rw [hfs]
  rwa [e] at h
theorem Inv.ne (hI : Inv E g o m M L0 x pos a F r kv nk B D outs ov) (hlt : pos < m) : rest B (o + pos) F ≠ [] := by
  have h := hI.1.om
  intro e
  have h2 := congrArg List.length e
  unfold rest at h2
  simp at h2
  omega
theorem Inv.few (hI : Inv E g o m M L0 x pos a F r kv nk B D outs ov) : D.length ≤ 900000 := by
  have h := hI.2.2.2.2.2
  omega
/-- the head is none: an error -/
theorem Inv.err (hI : Inv E g o m M L0 x pos a F r kv nk B D outs ov) (hfs : r.fs = true) (hlt : pos < m) (hh : Fr.head r.ff (rest B (o + pos) F) = none) {x' : World} (he : Eo E x' kv 0 D outs ov) : ErrOut E L0 x' := by
  have h := head_err (rem := r.rem) (kp := r.kp) (key := r.key) (hI.ne hlt) hh
  exact ⟨kv, 0, D, outs, ov, _, _, he, hI.st hfs, h.1, Or.inl ⟨h.2, rfl⟩, hI.few⟩
/-- data are to come -/
theorem Inv.data (hI : Inv E g o m M L0 x pos a F r kv nk B D outs ov) (hfs : r.fs = true) {h : Fr.Hd} (hh : Fr.head r.ff (rest B (o + pos) F) = some h) (ho : h.op < 8) {x' : World} {pos' a' : Nat} {F' : List Pc}
    (hb : Bs E g o m x' pos' a' F' { r with rem := h.rem, ff := h.ff, key := h.key, kp := 0, fs := false } kv nk B D outs ov) (hr : rest B (o + pos') F' = h.rest) :
    Inv E g o m M L0 x' pos' a' F' { r with rem := h.rem, ff := h.ff, key := h.key, kp := 0, fs := false } kv nk B D outs ov ∧ 2 * (rest B (o + pos') F').length + 2 < 2 * (rest B (o + pos) F).length + fsN r.fs + 1 := by
  have hf := head_facts hh
  have hgo := (hI.st hfs).next (Fr.step_data hh ho)
  rw [List.append_nil] at hgo
  obtain ⟨_, _, _, _, hk, hd⟩ := hI
  rw [hfs] at hd
  have h0 : fsN true = 0 := rfl
  have h1 : fsN false = 1 := rfl
  rw [← hr] at hf hgo
  refine ⟨⟨hb, by simp, hf.2.1, hgo, by omega, ?_⟩, ?_⟩
  · simp only [h1]
    omega
  · rw [hfs, h0]
    omega
/-- a ping or a pong has been read -/
theorem Inv.ping (hI : Inv E g o m M L0 x pos a F r kv nk B D outs ov) (hfs : r.fs = true) {h : Fr.Hd} (hh : Fr.head r.ff (rest B (o + pos) F) = some h) (ho : 8 ≤ h.op) (h8 : h.op ≠ 8) (hl : h.rem ≤ h.rest.length) {x' : World} {pos' a' nk' : Nat} {F' : List Pc} {kv' : Value} {B2 : List UInt8}
    (hb : Bs E g o m x' pos' a' F' { r with rem := 0, ff := h.ff, key := h.key, kp := h.rem % 4 } kv' nk' B2 D outs ov) (hr : rest B2 (o + pos') F' = h.rest.drop h.rem) (hn : nk' ≤ nk + 1) :
    Inv E g o m M L0 x' pos' a' F' { r with rem := 0, ff := h.ff, key := h.key, kp := h.rem % 4 } kv' nk' B2 D outs ov ∧ 2 * (rest B2 (o + pos') F').length + fsN r.fs + 1 < 2 * (rest B (o + pos) F).length + fsN r.fs + 1 := by
  have hf := head_facts hh
  have hgo := (hI.st hfs).next (Fr.step_ping hh ho h8 hl)
  rw [List.append_nil] at hgo
  obtain ⟨_, _, _, _, hk, hd⟩ := hI
  have hlen : (rest B2 (o + pos') F').length + 6 ≤ (rest B (o + pos) F).length := by rw [hr]; simp; omega
  rw [← hr] at hgo
  have e : stOf { r with rem := 0, ff := h.ff, key := h.key, kp := h.rem % 4 } = ⟨true, h.ff, 0, h.key, h.rem % 4⟩ := by unfold stOf; rw [hfs]
  refine ⟨⟨hb, Nat.mod_lt _ (by decide), by simp, by rw [e]; exact hgo, by omega, ?_⟩, by omega⟩
  simp only
  omega
/-- a control frame has ended the reading -/
theorem Inv.ctlEnd (hI : Inv E g o m M L0 x pos a F r kv nk B D outs ov) (hfs : r.fs = true) (hlt : pos < m) {h : Fr.Hd} (hh : Fr.head r.ff (rest B (o + pos) F) = some h) (ho : 8 ≤ h.op) {cl : Nat} (hc : CtlEnd h.op h.rem h.key h.rest 0 cl) {x' : World} {kv' : Value}
    (he : Eo E x' kv' cl D outs ov) : ErrOut E L0 x' := by
  rcases hc with ⟨h1, rfl⟩ | ⟨h1, h2, h3⟩
  · exact ⟨kv', 0, D, outs, ov, _, _, he, hI.st hfs, Fr.step_end hh ho (Or.inl h1), Or.inl ⟨Fr.fin_short (hI.ne hlt) hh h1, rfl⟩, hI.few⟩
  · have hf := Fr.fin_close (rem := r.rem) (kp := r.kp) (key := r.key) (hI.ne hlt) hh h1 h2
    rcases h3 with ⟨h3, rfl⟩ | h3
    · exact ⟨kv', 0, D, outs, ov, _, _, he, hI.st hfs, Fr.step_end hh ho (Or.inr h1), Or.inl ⟨hf.trans h3, rfl⟩, hI.few⟩
    · exact ⟨kv', cl, D, outs, ov, _, _, he, hI.st hfs, Fr.step_end hh ho (Or.inr h1), Or.inr (hf.trans h3), hI.few⟩
end
end Go.Proofs.YtkkedekgniffoaaDoor
