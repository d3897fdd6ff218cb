/-
  Plain mathematics of MQTT's remaining length: no program in sight. 'vi' reads a remaining length off bytes (done, not whole, or none); what was decided on a beginning stays; 'rl' reads it piece by piece and comes to what 'vi' reads of all of them joined.
-/
namespace Go.Proofs.YtjaodjeommkjgaaDoor.Vi

inductive Res where
  | more
  | err
  | done (v used : Nat)

/-- k bytes have been taken, v is their sum, m the next one's weight. -/
def vi : Nat → Nat → Nat → List UInt8 → Res
  | _, _, _, [] => .more
  | k, v, m, b :: r =>
    if b.toNat < 128 then .done (v + b.toNat % 128 * m) (k + 1)
    else if 2097152 < m * 128 then .err
    else vi (k + 1) (v + b.toNat % 128 * m) (m * 128) r

abbrev read (l : List UInt8) : Res := vi 0 0 1 l

theorem vi_append (r : List UInt8) : ∀ (l : List UInt8) (k v m : Nat), vi k v m l ≠ .more → vi k v m (l ++ r) = vi k v m l
  | [], _, _, _, h => absurd rfl h
  | b :: l, k, v, m, h => by
    simp only [List.cons_append, vi] at h ⊢
    split
    · rfl
    · split
      · rfl
      · rename_i h1 h2
        rw [if_neg h1, if_neg h2] at h
        exact vi_append r l _ _ _ h

def answer : Res → Nat × Nat × Bool
  | .done v k => (v, k, true)
  | _ => (0, 0, false)

/-- Piece by piece: 'acc' are the pieces that were read. -/
def rl : List UInt8 → List (List UInt8) → Nat × Nat × Bool
  | _, [] => (0, 0, false)
  | acc, p :: ps =>
    match read (acc ++ p) with
    | .err => (0, 0, false)
    | .done v k => (v, k, true)
    | .more => rl (acc ++ p) ps

def join (ps : List (List UInt8)) : List UInt8 := ps.flatten

theorem rl_eq : ∀ (ps : List (List UInt8)) (acc : List UInt8), read acc = .more → rl acc ps = answer (read (acc ++ join ps))
  | [], acc, h => by simp [rl, join, h, answer]
  | p :: ps, acc, _ => by
    have hj : acc ++ join (p :: ps) = (acc ++ p) ++ join ps := by simp [join]
    rw [hj, rl]
    cases hr : read (acc ++ p) with
    | more => exact rl_eq ps _ hr
    | err =>
      have e : vi 0 0 1 (acc ++ p) = .err := hr
      have := vi_append (join ps) (acc ++ p) 0 0 1 (by rw [e]; exact fun h => by cases h)
      show (0, 0, false) = _
      unfold read; rw [this, e]; rfl
    | done v k =>
      have e : vi 0 0 1 (acc ++ p) = .done v k := hr
      have := vi_append (join ps) (acc ++ p) 0 0 1 (by rw [e]; exact fun h => by cases h)
      show (v, k, true) = _
      unfold read; rw [this, e]; rfl

theorem rl_join (ps : List (List UInt8)) : rl [] ps = answer (read (join ps)) := by
  simpa using rl_eq ps [] rfl

/-- The reading, byte by byte, in terms of what is left: the bounds on the sum and the weight. -/
theorem vi_le : ∀ (l : List UInt8) (k v m x u : Nat), vi k v m l = .done x u → m ≤ 2097152 → v < m → x < 268435456 ∧ k < u ∧ u ≤ k + l.length
  | [], _, _, _, _, _, h, _, _ => by cases h
  | b :: l, k, v, m, x, u, h, hm, hv => by
    have hb : b.toNat % 128 ≤ 127 := by omega
    have hmul : b.toNat % 128 * m ≤ 127 * m := Nat.mul_le_mul_right _ hb
    simp only [vi] at h
    split at h
    · injection h with h1 h2
      subst h1; subst h2
      simp only [List.length_cons]
      omega
    · split at h
      · cases h
      · have := vi_le l _ _ _ _ _ h (by omega) (by omega)
        simp only [List.length_cons]
        omega

end Go.Proofs.YtjaodjeommkjgaaDoor.Vi
