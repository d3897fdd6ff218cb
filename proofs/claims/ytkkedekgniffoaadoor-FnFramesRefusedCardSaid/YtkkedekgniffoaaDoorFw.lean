/-
  Plain mathematics of a WebSocket client's frames in bytes: what the machine reads of them; no program in sight.
-/
import Derived.Test.YtkkedekgniffoaaDoorFm
namespace Go.Proofs.YtkkedekgniffoaaDoor.Fr

/-- a frame without its mask -/
structure F0 where
  op : Nat
  fin : Bool
  data : List UInt8

def keyOf (m : Nat) : List UInt8 := [UInt8.ofNat (m / 16777216), UInt8.ofNat (m / 65536), UInt8.ofNat (m / 256), UInt8.ofNat m]
def b0Of (f : F0) : UInt8 := UInt8.ofNat (f.op % 16 + if f.fin then 128 else 0)
def lenOf (n : Nat) : List UInt8 := if n < 126 then [UInt8.ofNat (128 + n)] else [254, UInt8.ofNat (n / 256), UInt8.ofNat n]
def written (f : F0) (m : Nat) : List UInt8 := b0Of f :: (lenOf f.data.length ++ (keyOf m ++ unm (keyOf m) 0 f.data))
def n7 (n : Nat) : Nat := if n < 126 then n else 126

theorem unm_unm (key : List UInt8) : ∀ (l : List UInt8) (p : Nat), unm key p (unm key p l) = l
  | [], _ => rfl
  | c :: l, p => by
    simp only [unm, unm_unm key l (p + 1)]
    rw [UInt8.xor_assoc, UInt8.xor_self, UInt8.xor_zero]

theorem b0_nat (f : F0) : (b0Of f).toNat = f.op % 16 + if f.fin then 128 else 0 := by
  have h : f.op % 16 < 16 := Nat.mod_lt _ (by decide)
  unfold b0Of
  rw [UInt8.toNat_ofNat']
  cases f.fin <;> simp <;> omega
theorem b0_hi (f : F0) : (b0Of f).toNat / 16 % 8 = 0 := by
  have h : f.op % 16 < 16 := Nat.mod_lt _ (by decide)
  rw [b0_nat]; cases f.fin <;> simp <;> omega
theorem b0_lo (f : F0) : (b0Of f).toNat % 16 = f.op % 16 := by
  have h : f.op % 16 < 16 := Nat.mod_lt _ (by decide)
  rw [b0_nat]; cases f.fin <;> simp <;> omega
theorem b0_fin (f : F0) : decide (128 ≤ (b0Of f).toNat) = f.fin := by
  have h : f.op % 16 < 16 := Nat.mod_lt _ (by decide)
  rw [b0_nat]; cases f.fin <;> simp <;> omega

theorem head_written (f : F0) (m : Nat) (ff : Bool) (rest : List UInt8) (hn : f.data.length < 65536) :
    head ff (written f m ++ rest) = (okOp ff (f.op % 16) (n7 f.data.length) f.fin).map (fun ff' => ⟨f.op % 16, f.data.length, ff', keyOf m, unm (keyOf m) 0 f.data ++ rest⟩) := by
  have hk : (keyOf m).length = 4 := rfl
  have hkd : ∀ r : List UInt8, (keyOf m ++ r).take 4 = keyOf m ∧ (keyOf m ++ r).drop 4 = r := fun r => by
    constructor
    · rw [List.take_append_of_le_length (by rw [hk]; exact Nat.le_refl _), List.take_of_length_le (by rw [hk]; exact Nat.le_refl _)]
    · rw [List.drop_append_of_le_length (by rw [hk]; exact Nat.le_refl _), List.drop_of_length_le (by rw [hk]; exact Nat.le_refl _), List.nil_append]
  by_cases h : f.data.length < 126
  · have e7 : n7 f.data.length = f.data.length := by unfold n7; rw [if_pos h]
    have eb : (UInt8.ofNat (128 + f.data.length)).toNat = 128 + f.data.length := by rw [UInt8.toNat_ofNat']; omega
    have ew : written f m ++ rest = b0Of f :: UInt8.ofNat (128 + f.data.length) :: (keyOf m ++ (unm (keyOf m) 0 f.data ++ rest)) := by
      unfold written lenOf; rw [if_pos h]; simp
    rw [ew]
    unfold head
    rw [if_neg (by simp)]
    simp only [List.getD_cons_zero, List.getD_cons_succ]
    rw [if_neg (by rw [b0_hi]; simp), if_neg (by rw [eb]; omega), b0_lo, b0_fin, eb, show (128 + f.data.length) % 128 = f.data.length from by omega, e7]
    cases okOp ff (f.op % 16) f.data.length f.fin with
    | none => rfl
    | some ff' =>
      have he : ext f.data.length (keyOf m ++ (unm (keyOf m) 0 f.data ++ rest)) = some (f.data.length, keyOf m ++ (unm (keyOf m) 0 f.data ++ rest)) := by
        unfold ext; rw [if_neg (by omega), if_neg (by omega)]
      simp only [List.drop_succ_cons, List.drop_zero, he, Option.map_some]
      rw [if_neg (by rw [List.length_append, hk]; omega), (hkd _).1, (hkd _).2]
  · have e7 : n7 f.data.length = 126 := by unfold n7; rw [if_neg h]
    have ew : written f m ++ rest = b0Of f :: 254 :: UInt8.ofNat (f.data.length / 256) :: UInt8.ofNat f.data.length :: (keyOf m ++ (unm (keyOf m) 0 f.data ++ rest)) := by
      unfold written lenOf; rw [if_neg h]; simp
    have e254 : (254 : UInt8).toNat = 254 := rfl
    rw [ew]
    unfold head
    rw [if_neg (by simp)]
    simp only [List.getD_cons_zero, List.getD_cons_succ]
    rw [if_neg (by rw [b0_hi]; simp), if_neg (by rw [e254]; omega), b0_lo, b0_fin, e254, e7]
    cases okOp ff (f.op % 16) 126 f.fin with
    | none => rfl
    | some ff' =>
      have hbe : be [UInt8.ofNat (f.data.length / 256), UInt8.ofNat f.data.length] = f.data.length := by
        have e1 : (UInt8.ofNat (f.data.length / 256)).toNat = f.data.length / 256 := by rw [UInt8.toNat_ofNat']; omega
        have e2 : (UInt8.ofNat f.data.length).toNat = f.data.length % 256 := UInt8.toNat_ofNat'
        simp only [be, Lib.beNat, Lib.beFrom, e1, e2]
        omega
      have he : ext 126 (UInt8.ofNat (f.data.length / 256) :: UInt8.ofNat f.data.length :: (keyOf m ++ (unm (keyOf m) 0 f.data ++ rest))) = some (f.data.length, keyOf m ++ (unm (keyOf m) 0 f.data ++ rest)) := by
        unfold ext
        rw [if_pos rfl, if_pos (by simp)]
        simp only [List.take_succ_cons, List.take_zero, List.drop_succ_cons, List.drop_zero, hbe]
      simp only [List.drop_succ_cons, List.drop_zero, show 254 % 128 = 126 from rfl, he, Option.map_some]
      rw [if_neg (by rw [List.length_append, hk]; omega), (hkd _).1, (hkd _).2]

/-! ## Frames that may stand where they stand -/
def status (n : Nat) : Bool := decide (1000 ≤ n ∧ n ≤ 1003) || decide (1007 ≤ n ∧ n ≤ 1011) || decide (3000 ≤ n ∧ n ≤ 4999)
def next (o : Bool) (f : F0) : Bool := if f.op ≤ 2 then !f.fin else o
/-- may it stand here -/
def okHere (o : Bool) (f : F0) (last : Bool) : Bool :=
  decide (f.data.length ≤ 100000) &&
  (if f.op = 0 then o
   else if f.op = 1 ∨ f.op = 2 then !o
   else if f.op = 8 ∨ f.op = 9 ∨ f.op = 10 then
     f.fin && decide (f.data.length ≤ 125) && (if f.op = 8 then last && decide (f.data.length ≠ 1) && (decide (f.data.length ≤ 1) || status ((f.data.getD 0 0).toNat * 256 + (f.data.getD 1 0).toNat)) else true)
   else false)
def right (o : Bool) : List F0 → Bool
  | [] => true
  | f :: l => okHere o f l.isEmpty && right (next o f) l
def bytesOf : List (F0 × Nat) → List UInt8
  | [] => []
  | (f, m) :: l => written f m ++ bytesOf l
def dataOf : List F0 → List UInt8
  | [] => []
  | f :: l => if f.op ≤ 2 then f.data ++ dataOf l else dataOf l
def endOf : List F0 → End
  | [] => .fine
  | f :: l => if f.op = 8 then closing f.data else endOf l
def last (o : Bool) : List F0 → Bool
  | [] => o
  | f :: l => last (next o f) l

theorem be_two (a b : UInt8) (l : List UInt8) : be ((a :: b :: l).take 2) = a.toNat * 256 + b.toNat := by
  simp [be, Lib.beNat, Lib.beFrom]

theorem status_ok {n : Nat} (h : status n = true) : okStatus n = true := by
  simp only [status, Bool.or_eq_true, decide_eq_true_eq] at h
  simp only [okStatus, decide_eq_true_eq]
  omega

theorem closing_ok {p : List UInt8} (h1 : p.length ≠ 1) (h2 : p.length ≤ 1 ∨ status ((p.getD 0 0).toNat * 256 + (p.getD 1 0).toNat) = true) : ∃ n, closing p = .closed n ∧ 0 < n := by
  match p, h1, h2 with
  | [], _, _ => exact ⟨1005, rfl, by decide⟩
  | [_], h1, _ => exact absurd rfl h1
  | a :: b :: l, _, h2 =>
    have hs : status (a.toNat * 256 + b.toNat) = true := by
      rcases h2 with h2 | h2
      · simp at h2
      · simpa using h2
    have hp : 0 < a.toNat * 256 + b.toNat := by
      simp only [status, Bool.or_eq_true, decide_eq_true_eq] at hs; omega
    unfold closing
    rw [if_neg (by simp), if_neg (by simp), be_two, if_pos (status_ok hs)]
    split
    · exact ⟨1007, rfl, by decide⟩
    · exact ⟨_, rfl, hp⟩

/-- a frame of data -/
theorem go_data {o : Bool} {f : F0} {m : Nat} {rest : List UInt8} (hn : f.data.length < 65536) (h2 : f.op ≤ 2) (hok : (f.op = 0 ∧ o = true) ∨ (f.op ≠ 0 ∧ o = false)) (rem kp : Nat) (key : List UInt8) :
    ∃ key' kp', Reach ⟨true, !o, rem, key, kp⟩ (written f m ++ rest) f.data ⟨true, !(next o f), 0, key', kp'⟩ rest := by
  have e16 : f.op % 16 = f.op := Nat.mod_eq_of_lt (by omega)
  have hop : okOp (!o) (f.op % 16) (n7 f.data.length) f.fin = some f.fin := by
    rw [e16]
    unfold okOp
    rw [if_neg (by omega)]
    rcases hok with ⟨h, rfl⟩ | ⟨h, rfl⟩
    · rw [if_neg (by omega), if_pos h]; rfl
    · rw [if_pos (by omega)]; rfl
  have hnx : (!(next o f)) = f.fin := by unfold next; rw [if_pos h2]; simp
  have h1 : step ⟨true, !o, rem, key, kp⟩ (written f m ++ rest) = some ([], ⟨false, f.fin, f.data.length, keyOf m, 0⟩, unm (keyOf m) 0 f.data ++ rest) := by
    unfold step
    rw [if_pos rfl, head_written f m _ rest hn, hop]
    simp only [Option.map_some, Option.bind_some, afterHead]
    rw [if_neg (by rw [e16]; omega)]
  have hl : (unm (keyOf m) 0 f.data).length = f.data.length := unm_length _ _ _
  have h2' := Reach.data (ff := f.fin) (key := keyOf m) f.data.length f.data.length 0 (unm (keyOf m) 0 f.data ++ rest) (Nat.le_refl _) (by simp [hl])
  rw [List.take_append_of_le_length (by omega), List.take_of_length_le (by omega), unm_unm, List.drop_append_of_le_length (by omega), List.drop_of_length_le (by omega), List.nil_append, Nat.sub_self] at h2'
  have h3 : step ⟨false, f.fin, 0, keyOf m, (0 + f.data.length) % 4⟩ rest = some ([], ⟨true, f.fin, 0, keyOf m, (0 + f.data.length) % 4⟩, rest) := by simp [step]
  refine ⟨keyOf m, (0 + f.data.length) % 4, ?_⟩
  rw [hnx]
  have := ((Reach.one h1).trans h2').next h3
  simpa using this

/-- a ping or a pong -/
theorem go_ping {o : Bool} {f : F0} {m : Nat} {rest : List UInt8} (hn : f.data.length ≤ 125) (h9 : f.op = 9 ∨ f.op = 10) (hf : f.fin = true) (rem kp : Nat) (key : List UInt8) :
    ∃ key' kp', Reach ⟨true, !o, rem, key, kp⟩ (written f m ++ rest) [] ⟨true, !(next o f), 0, key', kp'⟩ rest := by
  have e16 : f.op % 16 = f.op := Nat.mod_eq_of_lt (by omega)
  have e7 : n7 f.data.length = f.data.length := by unfold n7; rw [if_pos (by omega)]
  have hop : okOp (!o) (f.op % 16) (n7 f.data.length) f.fin = some (!o) := by
    rw [e16, e7]
    unfold okOp
    rw [if_pos (by omega), if_neg (by omega), hf]; rfl
  have hnx : next o f = o := by unfold next; rw [if_neg (by omega)]
  have hl : (unm (keyOf m) 0 f.data).length = f.data.length := unm_length _ _ _
  have h1 : step ⟨true, !o, rem, key, kp⟩ (written f m ++ rest) = some ([], ⟨true, !o, 0, keyOf m, f.data.length % 4⟩, rest) := by
    unfold step
    rw [if_pos rfl, head_written f m _ rest (by omega), hop]
    simp only [Option.map_some, Option.bind_some, afterHead]
    rw [if_pos (by rw [e16]; omega), if_neg (by rw [List.length_append, hl]; omega), if_neg (by rw [e16]; omega), List.drop_append_of_le_length (by omega), List.drop_of_length_le (by omega), List.nil_append]
  refine ⟨keyOf m, f.data.length % 4, ?_⟩
  rw [hnx]
  exact Reach.one h1

/-- a close frame -/
theorem go_close {o : Bool} {f : F0} {m : Nat} (hn : f.data.length ≤ 125) (h8 : f.op = 8) (hf : f.fin = true) (rem kp : Nat) (key : List UInt8) (rest : List UInt8) :
    step ⟨true, !o, rem, key, kp⟩ (written f m ++ rest) = none ∧ fin ⟨true, !o, rem, key, kp⟩ (written f m ++ rest) = closing f.data := by
  have e16 : f.op % 16 = f.op := Nat.mod_eq_of_lt (by omega)
  have e7 : n7 f.data.length = f.data.length := by unfold n7; rw [if_pos (by omega)]
  have hop : okOp (!o) (f.op % 16) (n7 f.data.length) f.fin = some (!o) := by
    rw [e16, e7]
    unfold okOp
    rw [if_pos (by omega), if_neg (by omega), hf]; rfl
  have hl : (unm (keyOf m) 0 f.data).length = f.data.length := unm_length _ _ _
  have hh := head_written f m (!o) rest (by omega)
  rw [hop] at hh
  constructor
  · unfold step
    rw [if_pos rfl, hh]
    simp only [Option.map_some, Option.bind_some, afterHead]
    rw [if_pos (by rw [e16]; omega), if_neg (by rw [List.length_append, hl]; omega), if_pos (by rw [e16]; omega)]
  · unfold fin
    rw [if_pos rfl, if_neg (by unfold written; simp), hh]
    simp only [Option.map_some]
    rw [if_pos ⟨by rw [e16]; exact h8, by rw [List.length_append, hl]; omega⟩, List.take_append_of_le_length (by omega), List.take_of_length_le (by omega), unm_unm]

theorem okHere_parts {o : Bool} {f : F0} {b : Bool} (h : okHere o f b = true) :
    (f.op ≤ 2 ∧ ((f.op = 0 ∧ o = true) ∨ (f.op ≠ 0 ∧ o = false))) ∨ ((f.op = 9 ∨ f.op = 10) ∧ f.fin = true ∧ f.data.length ≤ 125) ∨
    (f.op = 8 ∧ f.fin = true ∧ f.data.length ≤ 125 ∧ b = true ∧ f.data.length ≠ 1 ∧ (f.data.length ≤ 1 ∨ status ((f.data.getD 0 0).toNat * 256 + (f.data.getD 1 0).toNat) = true)) := by
  unfold okHere at h
  rw [Bool.and_eq_true] at h
  obtain ⟨_, h⟩ := h
  split at h
  · rename_i h0
    exact Or.inl ⟨by omega, Or.inl ⟨h0, h⟩⟩
  · rename_i h0
    split at h
    · rename_i h1
      exact Or.inl ⟨by omega, Or.inr ⟨h0, by simpa using h⟩⟩
    · split at h
      · rename_i h2
        simp only [Bool.and_eq_true, decide_eq_true_eq] at h
        obtain ⟨⟨h3, h4⟩, h5⟩ := h
        split at h5
        · rename_i h8
          simp only [Bool.and_eq_true, Bool.or_eq_true, decide_eq_true_eq] at h5
          exact Or.inr (Or.inr ⟨h8, h3, h4, h5.1.1, h5.1.2, h5.2⟩)
        · rename_i h8
          exact Or.inr (Or.inl ⟨by omega, h3, h4⟩)
      · cases h

/-- frames without a close frame, with more behind -/
theorem go_more : ∀ (l : List (F0 × Nat)) (o : Bool) (rest : List UInt8), right o (l.map (·.1)) = true → (∀ x ∈ l, x.1.op ≠ 8) → (∀ x ∈ l, x.1.data.length < 65536) → ∀ (rem kp : Nat) (key : List UInt8),
    ∃ rem' key' kp', Reach ⟨true, !o, rem, key, kp⟩ (bytesOf l ++ rest) (dataOf (l.map (·.1))) ⟨true, !(last o (l.map (·.1))), rem', key', kp'⟩ rest
  | [], o, rest, _, _, _, rem, kp, key => ⟨rem, key, kp, by simpa [bytesOf, dataOf, last] using Reach.refl _ _⟩
  | (f, m) :: l, o, rest, hr, h8, hn, rem, kp, key => by
    simp only [List.map_cons, right, Bool.and_eq_true] at hr
    have hn0 : f.data.length < 65536 := hn (f, m) List.mem_cons_self
    have hone : ∃ d key' kp', Reach ⟨true, !o, rem, key, kp⟩ (written f m ++ (bytesOf l ++ rest)) d ⟨true, !(next o f), 0, key', kp'⟩ (bytesOf l ++ rest) ∧ dataOf (f :: l.map (·.1)) = d ++ dataOf (l.map (·.1)) := by
      rcases okHere_parts hr.1 with ⟨h2, hok⟩ | ⟨h9, hf, hl⟩ | ⟨h, _⟩
      · obtain ⟨key', kp', h⟩ := go_data (m := m) (rest := bytesOf l ++ rest) hn0 h2 hok rem kp key
        exact ⟨_, key', kp', h, by simp [dataOf, h2]⟩
      · obtain ⟨key', kp', h⟩ := go_ping (o := o) (m := m) (rest := bytesOf l ++ rest) hl h9 hf rem kp key
        exact ⟨_, key', kp', h, by rw [dataOf, if_neg (by omega)]; rfl⟩
      · exact absurd h (h8 (f, m) List.mem_cons_self)
    obtain ⟨d, key', kp', h1, hd⟩ := hone
    obtain ⟨rem2, key2, kp2, h2⟩ := go_more l (next o f) rest hr.2 (fun x hx => h8 x (List.mem_cons_of_mem _ hx)) (fun x hx => hn x (List.mem_cons_of_mem _ hx)) 0 kp' key'
    refine ⟨rem2, key2, kp2, ?_⟩
    have := h1.trans h2
    rw [← hd] at this
    simpa [bytesOf, last] using this

/-- frames that are right are read, and it ends as is said -/
theorem go_right : ∀ (l : List (F0 × Nat)) (o : Bool), right o (l.map (·.1)) = true → (∀ x ∈ l, x.1.data.length < 65536) → ∀ (rem kp : Nat) (key : List UInt8),
    ∃ s l', Reach ⟨true, !o, rem, key, kp⟩ (bytesOf l) (dataOf (l.map (·.1))) s l' ∧ step s l' = none ∧ fin s l' = endOf (l.map (·.1)) ∧ (endOf (l.map (·.1)) = .fine ∨ ∃ n, endOf (l.map (·.1)) = .closed n ∧ 0 < n)
  | [], o, _, _, rem, kp, key => ⟨_, _, Reach.refl _ _, by simp [step, head, bytesOf], by simp [fin, bytesOf, endOf], Or.inl rfl⟩
  | (f, m) :: l, o, hr, hn, rem, kp, key => by
    simp only [List.map_cons, right, Bool.and_eq_true] at hr
    have hn0 : f.data.length < 65536 := hn (f, m) List.mem_cons_self
    by_cases h8 : f.op = 8
    · rcases okHere_parts hr.1 with ⟨h2, _⟩ | ⟨h9, _⟩ | ⟨_, hf, hl, hb, h1, hs⟩
      · omega
      · omega
      · have hnil : l = [] := by simpa using hb
        subst hnil
        obtain ⟨a, b⟩ := go_close (o := o) (m := m) hl h8 hf rem kp key []
        obtain ⟨n, hc, hn⟩ := closing_ok h1 hs
        have e1 : endOf [f] = closing f.data := by simp [endOf, h8]
        have e2 : dataOf [f] = [] := by simp [dataOf, h8]
        simp only [List.map_cons, List.map_nil, bytesOf, e1, e2]
        exact ⟨_, _, Reach.refl _ _, a, b, Or.inr ⟨n, hc, hn⟩⟩
    · have hone : ∃ d key' kp', Reach ⟨true, !o, rem, key, kp⟩ (written f m ++ bytesOf l) d ⟨true, !(next o f), 0, key', kp'⟩ (bytesOf l) ∧ dataOf (f :: l.map (·.1)) = d ++ dataOf (l.map (·.1)) := by
        rcases okHere_parts hr.1 with ⟨h2, hok⟩ | ⟨h9, hf, hl⟩ | ⟨h, _⟩
        · obtain ⟨key', kp', h⟩ := go_data (m := m) (rest := bytesOf l) hn0 h2 hok rem kp key
          exact ⟨_, key', kp', h, by simp [dataOf, h2]⟩
        · obtain ⟨key', kp', h⟩ := go_ping (o := o) (m := m) (rest := bytesOf l) hl h9 hf rem kp key
          exact ⟨_, key', kp', h, by rw [dataOf, if_neg (by omega)]; rfl⟩
        · exact absurd h h8
      obtain ⟨d, key', kp', h1, hd⟩ := hone
      obtain ⟨s, l', h2, h3, h4, h5⟩ := go_right l (next o f) hr.2 (fun x hx => hn x (List.mem_cons_of_mem _ hx)) 0 kp' key'
      refine ⟨s, l', ?_, h3, ?_, ?_⟩
      · have := h1.trans h2
        rw [← hd] at this
        simpa [bytesOf] using this
      · simpa [endOf, h8] using h4
      · simpa [endOf, h8] using h5

/-- the last one of frames is wrong -/
def badLast (o : Bool) (f : F0) : Bool :=
  if f.op % 16 = 0 then !o
  else if f.op % 16 = 1 ∨ f.op % 16 = 2 then o
  else if f.op % 16 = 8 ∨ f.op % 16 = 9 ∨ f.op % 16 = 10 then (!f.fin || decide (125 < f.data.length))
  else true
theorem bad_none {o : Bool} {f : F0} (h : badLast o f = true) : okOp (!o) (f.op % 16) (n7 f.data.length) f.fin = none := by
  unfold badLast at h
  unfold okOp
  split at h
  · rename_i h0
    rw [if_neg (by omega), if_neg (by omega), if_pos h0, if_pos h]
  · rename_i h0
    split at h
    · rename_i h1
      rw [if_neg (by omega), if_pos h1, h]; rfl
    · rename_i h1
      split at h
      · rename_i h2
        rw [if_pos h2]
        simp only [Bool.or_eq_true, Bool.not_eq_true', decide_eq_true_eq] at h
        rcases h with h | h
        · split
          · rfl
          · rw [h]; rfl
        · rw [if_pos (by unfold n7; split <;> omega)]
      · rename_i h2
        rw [if_neg h2, if_neg h1, if_neg h0]
theorem go_wrong (l : List (F0 × Nat)) (f : F0) (m : Nat) (hr : right false (l.map (·.1)) = true) (h8 : ∀ x ∈ l, x.1.op ≠ 8) (hn : ∀ x ∈ l, x.1.data.length < 65536) (hf : f.data.length < 65536) (hb : badLast (last false (l.map (·.1))) f = true) :
    ∃ d s l', Reach start (bytesOf (l ++ [(f, m)])) d s l' ∧ step s l' = none ∧ fin s l' = .err := by
  have hap : ∀ (a b : List (F0 × Nat)), bytesOf (a ++ b) = bytesOf a ++ bytesOf b := by
    intro a b
    induction a with
    | nil => rfl
    | cons x a ih => obtain ⟨f, m⟩ := x; simp [bytesOf, ih]
  obtain ⟨rem, key, kp, h⟩ := go_more l false (bytesOf [(f, m)]) hr h8 hn 0 0 [0, 0, 0, 0]
  rw [← hap] at h
  have hh : head (!(last false (l.map (·.1)))) (written f m ++ []) = none := by rw [head_written f m _ [] hf, bad_none hb]; rfl
  have e : bytesOf [(f, m)] = written f m ++ [] := rfl
  rw [e] at h
  refine ⟨_, _, _, h, ?_, ?_⟩
  · simp only [step]
    rw [if_pos trivial, hh]; rfl
  · simp only [fin]
    rw [if_pos trivial, if_neg (by unfold written; simp), hh]

/-- a frame whose second byte's first bit is not set -/
theorem go_unmasked (b0 b1 : UInt8) (l : List UInt8) (h : b1.toNat < 128) : step start (b0 :: b1 :: l) = none ∧ fin start (b0 :: b1 :: l) = .err := by
  have hh : head true (b0 :: b1 :: l) = none := by
    unfold head
    rw [if_neg (by simp)]
    simp only [List.getD_cons_zero, List.getD_cons_succ]
    by_cases h0 : b0.toNat / 16 % 8 ≠ 0
    · rw [if_pos h0]
    · rw [if_neg h0, if_pos h]
  constructor
  · simp only [step, start]
    rw [if_pos trivial, hh]; rfl
  · simp only [fin, start]
    rw [if_pos trivial, if_neg (by simp), hh]
end Go.Proofs.YtkkedekgniffoaaDoor.Fr
