/-
  Plain mathematics of a WebSocket client's frames: no program in sight. A machine that reads a stream of bytes, a step at a time; what it has read of a beginning it has read of all.
-/
import Derived.Lib.ValidU
import Derived.Lib.Endian
namespace Go.Proofs.YtkkedekgniffoaaDoor.Fr

structure St where
  fs : Bool
  ff : Bool
  rem : Nat
  key : List UInt8
  kp : Nat

def start : St := ⟨true, true, 0, [0, 0, 0, 0], 0⟩

/-- the byte of the key at a place -/
def kat (key : List UInt8) (p : Nat) : UInt8 := key.getD (p % 4) 0
def unm (key : List UInt8) : Nat → List UInt8 → List UInt8
  | _, [] => []
  | p, c :: l => (c ^^^ kat key p) :: unm key (p + 1) l
theorem unm_length (key : List UInt8) : ∀ (l : List UInt8) (p : Nat), (unm key p l).length = l.length
  | [], _ => rfl
  | _ :: l, p => by simp [unm, unm_length key l]
theorem kat_mod (key : List UInt8) (p : Nat) : kat key (p % 4) = kat key p := by simp [kat]
theorem unm_mod (key : List UInt8) : ∀ (l : List UInt8) (p q : Nat), p % 4 = q % 4 → unm key p l = unm key q l
  | [], _, _, _ => rfl
  | c :: l, p, q, h => by
    simp only [unm]
    rw [unm_mod key l (p + 1) (q + 1) (by omega), ← kat_mod key p, h, kat_mod]
theorem unm_append (key : List UInt8) : ∀ (a b : List UInt8) (p : Nat), unm key p (a ++ b) = unm key p a ++ unm key (p + a.length) b
  | [], b, p => by simp [unm]
  | c :: a, b, p => by
    simp only [List.cons_append, unm, unm_append key a b (p + 1), List.length_cons]
    rw [show p + 1 + a.length = p + (a.length + 1) from by omega]
theorem unm_getD (key : List UInt8) : ∀ (l : List UInt8) (p i : Nat), i < l.length → (unm key p l).getD i 0 = l.getD i 0 ^^^ kat key (p + i)
  | [], _, _, h => absurd h (by simp)
  | c :: l, p, 0, _ => by simp [unm]
  | c :: l, p, i + 1, h => by
    have := unm_getD key l (p + 1) i (by simpa using h)
    simp only [unm, List.getD_cons_succ, this]
    rw [show p + 1 + i = p + (i + 1) from by omega]

/-- the number that bytes spell, the greatest first -/
def be (l : List UInt8) : Nat := Lib.beNat l

/-- may such a frame stand here; is its message whole behind it -/
def okOp (ff : Bool) (op rem : Nat) (final : Bool) : Option Bool :=
  if op = 8 ∨ op = 9 ∨ op = 10 then (if 125 < rem then none else if final then some ff else none)
  else if op = 1 ∨ op = 2 then (if ff then some final else none)
  else if op = 0 then (if ff then none else some final)
  else none

def ext (n7 : Nat) (l : List UInt8) : Option (Nat × List UInt8) :=
  if n7 = 126 then (if 2 ≤ l.length then some (be (l.take 2), l.drop 2) else none)
  else if n7 = 127 then (if 8 ≤ l.length then (if be (l.take 8) < 9223372036854775808 then some (be (l.take 8), l.drop 8) else none) else none)
  else some (n7, l)

structure Hd where
  op : Nat
  rem : Nat
  ff : Bool
  key : List UInt8
  rest : List UInt8

def head (ff : Bool) (l : List UInt8) : Option Hd :=
  if l.length < 2 then none
  else if (l.getD 0 0).toNat / 16 % 8 ≠ 0 then none
  else if (l.getD 1 0).toNat < 128 then none
  else match okOp ff ((l.getD 0 0).toNat % 16) ((l.getD 1 0).toNat % 128) (decide (128 ≤ (l.getD 0 0).toNat)) with
    | none => none
    | some f => match ext ((l.getD 1 0).toNat % 128) (l.drop 2) with
      | none => none
      | some (rem, l2) => if l2.length < 4 then none else some ⟨(l.getD 0 0).toNat % 16, rem, f, l2.take 4, l2.drop 4⟩

def afterHead (h : Hd) : Option (List UInt8 × St × List UInt8) :=
  if 8 ≤ h.op then
    if h.rest.length < h.rem then none
    else if h.op = 8 then none
    else some ([], ⟨true, h.ff, 0, h.key, h.rem % 4⟩, h.rest.drop h.rem)
  else some ([], ⟨false, h.ff, h.rem, h.key, 0⟩, h.rest)

def step (s : St) (l : List UInt8) : Option (List UInt8 × St × List UInt8) :=
  if s.fs then (head s.ff l).bind afterHead
  else if s.rem = 0 then some ([], { s with fs := true }, l)
  else match l with
    | [] => none
    | c :: l' => some ([c ^^^ kat s.key s.kp], { s with rem := s.rem - 1, kp := (s.kp + 1) % 4 }, l')

inductive Reach : St → List UInt8 → List UInt8 → St → List UInt8 → Prop where
  | refl (s : St) (l : List UInt8) : Reach s l [] s l
  | cons {s l d s1 l1 d1 s2 l2} (e : step s l = some (d, s1, l1)) (h : Reach s1 l1 d1 s2 l2) : Reach s l (d ++ d1) s2 l2

theorem Reach.one {s l d s1 l1} (e : step s l = some (d, s1, l1)) : Reach s l d s1 l1 := by
  have := Reach.cons e (Reach.refl _ _)
  simpa using this
theorem Reach.trans {s l d s1 l1 d1 s2 l2} (h : Reach s l d s1 l1) (h2 : Reach s1 l1 d1 s2 l2) : Reach s l (d ++ d1) s2 l2 := by
  induction h with
  | refl => simpa using h2
  | cons e _ ih => rw [List.append_assoc]; exact Reach.cons e (ih h2)
theorem Reach.next {s l d s1 l1 d1 s2 l2} (h : Reach s l d s1 l1) (e : step s1 l1 = some (d1, s2, l2)) : Reach s l (d ++ d1) s2 l2 := h.trans (Reach.one e)

theorem ext_append {n : Nat} {l m : List UInt8} {x : Nat × List UInt8} (h : ext n l = some x) : ext n (l ++ m) = some (x.1, x.2 ++ m) := by
  unfold ext at h ⊢
  split at h
  · rename_i hn
    rw [if_pos hn]
    split at h
    · rename_i hl
      cases h
      rw [if_pos (by simp; omega), List.take_append_of_le_length hl, List.drop_append_of_le_length hl]
    · cases h
  · rename_i hn
    rw [if_neg hn]
    split at h
    · rename_i hn2
      rw [if_pos hn2]
      split at h
      · rename_i hl
        rw [if_pos (by simp; omega), List.take_append_of_le_length hl, List.drop_append_of_le_length hl]
        split at h
        · rename_i hb
          cases h
          rw [if_pos hb]
        · cases h
      · cases h
    · rename_i hn2
      rw [if_neg hn2]
      cases h
      rfl

theorem head_append {ff : Bool} {l m : List UInt8} {x : Hd} (h : head ff l = some x) : head ff (l ++ m) = some { x with rest := x.rest ++ m } := by
  unfold head at h ⊢
  split at h
  · cases h
  · rename_i hl
    rw [if_neg (by simp; omega)]
    have g0 : (l ++ m).getD 0 0 = l.getD 0 0 := by rw [List.getD, List.getElem?_append_left (by omega)]; rfl
    have g1 : (l ++ m).getD 1 0 = l.getD 1 0 := by rw [List.getD, List.getElem?_append_left (by omega)]; rfl
    rw [g0, g1]
    split at h
    · cases h
    · rename_i h1
      rw [if_neg h1]
      split at h
      · cases h
      · rename_i h2
        rw [if_neg h2]
        split at h
        · cases h
        · rename_i f hf
          split at h
          · cases h
          · rename_i rem l2 he
            have he2 := ext_append (m := m) he
            rw [List.drop_append_of_le_length (by omega), he2]
            split at h
            · cases h
            · rename_i h4
              cases h
              simp only
              rw [if_neg (by simp; omega), List.take_append_of_le_length (by omega), List.drop_append_of_le_length (by omega)]

theorem step_append {s : St} {l m : List UInt8} {d : List UInt8} {s1 : St} {l1 : List UInt8} (h : step s l = some (d, s1, l1)) : step s (l ++ m) = some (d, s1, l1 ++ m) := by
  unfold step at h ⊢
  split at h
  · rename_i hf
    rw [if_pos hf]
    cases hh : head s.ff l with
    | none => rw [hh] at h; cases h
    | some x =>
      rw [hh] at h
      rw [head_append hh]
      simp only [Option.bind_some] at h ⊢
      unfold afterHead at h ⊢
      simp only at h ⊢
      split at h
      · rename_i h8
        rw [if_pos h8]
        split at h
        · cases h
        · rename_i hr
          rw [if_neg (by simp; omega)]
          split at h
          · cases h
          · rename_i ho
            rw [if_neg ho]
            cases h
            rw [List.drop_append_of_le_length (by omega)]
      · rename_i h8
        rw [if_neg h8]
        cases h
        rfl
  · rename_i hf
    rw [if_neg hf]
    split at h
    · rename_i hr
      rw [if_pos hr]
      cases h
      rfl
    · rename_i hr
      rw [if_neg hr]
      cases l with
      | nil => cases h
      | cons c l => cases h; rfl

theorem Reach.append {s l d s1 l1} (m : List UInt8) (h : Reach s l d s1 l1) : Reach s (l ++ m) d s1 (l1 ++ m) := by
  induction h with
  | refl => exact Reach.refl _ _
  | cons e _ ih => exact Reach.cons (step_append e) ih

/-- from where one run stands on, as far as a run that has come to its end -/
theorem Reach.rest {s l d1 s1 l1 d2 s2 l2} (h1 : Reach s l d1 s1 l1) (h2 : Reach s l d2 s2 l2) (he : step s2 l2 = none) : ∃ d3, Reach s1 l1 d3 s2 l2 ∧ d2 = d1 ++ d3 := by
  induction h1 generalizing d2 with
  | refl => exact ⟨d2, h2, rfl⟩
  | cons e _ ih =>
    cases h2 with
    | refl => rw [he] at e; cases e
    | cons e2 h3 =>
      rw [e] at e2
      cases e2
      obtain ⟨d3, hr, rfl⟩ := ih h3
      exact ⟨d3, hr, by simp⟩

/-- the data of a frame, as far as they are there -/
theorem Reach.data {ff : Bool} {key : List UInt8} : ∀ (k rem kp : Nat) (l : List UInt8), k ≤ rem → k ≤ l.length →
    Reach ⟨false, ff, rem, key, kp % 4⟩ l (unm key kp (l.take k)) ⟨false, ff, rem - k, key, (kp + k) % 4⟩ (l.drop k)
  | 0, rem, kp, l, _, _ => by simpa [unm] using Reach.refl _ _
  | k + 1, rem, kp, [], _, h => by simp at h
  | k + 1, rem, kp, c :: l, h1, h2 => by
    have hs : step ⟨false, ff, rem, key, kp % 4⟩ (c :: l) = some ([c ^^^ kat key kp], ⟨false, ff, rem - 1, key, (kp + 1) % 4⟩, l) := by
      simp [step, show rem ≠ 0 from by omega, kat_mod]
    have := Reach.cons hs (Reach.data k (rem - 1) (kp + 1) l (by omega) (by simpa using h2))
    simpa [unm, show rem - 1 - k = rem - (k + 1) from by omega, show kp + 1 + k = kp + (k + 1) from by omega] using this

/-! ## How it ends -/
inductive End where
  | fine
  | err
  | closed (n : Nat)

def okStatus (n : Nat) : Bool := decide (1000 ≤ n ∧ n < 5000 ∧ n ≠ 1004 ∧ n ≠ 1005 ∧ n ≠ 1006 ∧ n ≠ 1015 ∧ ¬ (1016 ≤ n ∧ n ≤ 2999))

/-- what a close frame with this payload does -/
def closing (p : List UInt8) : End :=
  if p.length = 0 then .closed 1005
  else if p.length = 1 then .err
  else if okStatus (be (p.take 2)) = true then (if 2 < p.length ∧ Lib.validD (p.drop 2) = false then .closed 1007 else .closed (be (p.take 2)))
  else .err

def fin (s : St) (l : List UInt8) : End :=
  if s.fs then
    if l = [] then .fine
    else match head s.ff l with
      | none => .err
      | some h => if h.op = 8 ∧ h.rem ≤ h.rest.length then closing (unm h.key 0 (h.rest.take h.rem)) else .err
  else .fine

def End.ok : End → Bool
  | .err => false
  | _ => true
def End.status : End → Nat
  | .closed n => n
  | _ => 0

end Go.Proofs.YtkkedekgniffoaaDoor.Fr
