/-
  Plain mathematics of a consumer's state: deliveries one by one, acknowledgements in whatever order; no program in sight.
-/
namespace Go.Proofs.YtchphfdoneckeaaDoor.Cs

/-- a message that waits: its number in the stream, the number of its delivery, its time -/
structure Wt where
  s : Nat
  c : Nat
  t : Int
deriving DecidableEq
structure Kp where
  dc : Nat
  ds : Nat
  fc : Nat
  fs : Nat
  waits : List Wt
deriving DecidableEq
def k0 : Kp := ⟨0, 0, 0, 0, []⟩
/-- waits lie in order, by both numbers -/
def Up (l : List Wt) : Prop := l.Pairwise (fun a b => a.s < b.s ∧ a.c < b.c)
structure Sound (k : Kp) : Prop where
  fc : k.fc ≤ k.dc
  fs : k.fs ≤ k.ds
  up : Up k.waits
  w : ∀ x ∈ k.waits, k.fs < x.s ∧ x.s ≤ k.ds ∧ k.fc < x.c ∧ x.c ≤ k.dc

/-- a new message is delivered -/
def dlv (k : Kp) (c s : Nat) (t : Int) : Kp := { k with waits := k.waits ++ [⟨s, c, t⟩], dc := c, ds := s }
theorem dlv_sound {k : Kp} (h : Sound k) {c s : Nat} (t : Int) (hc : k.dc < c) (hs : k.ds < s) : Sound (dlv k c s t) := by
  have h1 := h.fc
  have h2 := h.fs
  refine ⟨by simp only [dlv]; omega, by simp only [dlv]; omega, ?_, fun x hx => ?_⟩
  · simp only [dlv, Up, List.pairwise_append]
    refine ⟨h.up, by simp, fun a ha b hb => ?_⟩
    obtain rfl : b = ⟨s, c, t⟩ := by simpa using hb
    have := h.w a ha
    simp only
    omega
  · simp only [dlv] at hx ⊢
    rcases List.mem_append.1 hx with hx | hx
    · have := h.w x hx
      omega
    · obtain rfl : x = ⟨s, c, t⟩ := by simpa using hx
      simp only
      omega

/-- those that wait behind one has gone -/
def without (l : List Wt) (s : Nat) : List Wt := l.filter (fun x => decide (x.s ≠ s))
/-- the floor, where the message next to it has been acknowledged -/
def nextFloor (k : Kp) (l : List Wt) (c s : Nat) : Nat × Nat :=
  if c < k.dc then (match l.find? (fun x => decide (s < x.s)) with | some p => (p.c - 1, p.s - 1) | none => (c, s)) else (c, s)
/-- a message that waits is acknowledged with its own number -/
def ackd (k : Kp) (c s : Nat) : Kp :=
  if without k.waits s = [] then { k with waits := [], fc := k.dc, fs := k.ds }
  else if c = k.fc + 1 then { k with waits := without k.waits s, fc := (nextFloor k (without k.waits s) c s).1, fs := (nextFloor k (without k.waits s) c s).2 }
  else { k with waits := without k.waits s }
theorem up_sub {l l' : List Wt} (h : l'.Sublist l) (hu : Up l) : Up l' := hu.sublist h
theorem up_inj {l : List Wt} (h : Up l) {a b : Wt} (ha : a ∈ l) (hb : b ∈ l) (he : a.s = b.s) : a = b := by
  induction l with
  | nil => cases ha
  | cons x l ih =>
    obtain ⟨h1, h2⟩ := List.pairwise_cons.1 h
    rcases List.mem_cons.1 ha with rfl | ha'
    · rcases List.mem_cons.1 hb with rfl | hb'
      · rfl
      · have := h1 b hb'; omega
    · rcases List.mem_cons.1 hb with rfl | hb'
      · have := h1 a ha'; omega
      · exact ih h2 ha' hb'
theorem up_mono {l : List Wt} (h : Up l) {a b : Wt} (ha : a ∈ l) (hb : b ∈ l) : (a.c < b.c → a.s < b.s) ∧ (a.s < b.s → a.c < b.c) := by
  induction l with
  | nil => cases ha
  | cons x l ih =>
    obtain ⟨h1, h2⟩ := List.pairwise_cons.1 h
    rcases List.mem_cons.1 ha with rfl | ha'
    · rcases List.mem_cons.1 hb with rfl | hb'
      · constructor <;> intro h <;> omega
      · have := h1 b hb'; constructor <;> intro h <;> omega
    · rcases List.mem_cons.1 hb with rfl | hb'
      · have := h1 a ha'; constructor <;> intro h <;> omega
      · exact ih h2 ha' hb'
theorem without_mem {l : List Wt} {s : Nat} {x : Wt} : x ∈ without l s ↔ x ∈ l ∧ x.s ≠ s := by
  simp [without]
theorem without_length {l : List Wt} (h : Up l) {x : Wt} (hx : x ∈ l) : (without l x.s).length + 1 = l.length := by
  induction l with
  | nil => cases hx
  | cons y l ih =>
    obtain ⟨h1, h2⟩ := List.pairwise_cons.1 h
    rcases List.mem_cons.1 hx with rfl | hx'
    · have e : without l x.s = l := by
        unfold without
        rw [List.filter_eq_self]
        intro a ha
        have := h1 a ha
        simp; omega
      have e2 : without (x :: l) x.s = without l x.s := by simp [without]
      rw [e2, e]; rfl
    · have := h1 x hx'
      have e2 : without (y :: l) x.s = y :: without l x.s := by
        have hne : y.s ≠ x.s := by omega
        simp [without, hne]
      rw [e2, List.length_cons, List.length_cons, ih h2 hx']
theorem ackd_sound {k : Kp} (h : Sound k) {x : Wt} (hx : x ∈ k.waits) : Sound (ackd k x.c x.s) := by
  have hfc := h.fc
  have hfs := h.fs
  have hxw := h.w x hx
  have hsub : (without k.waits x.s).Sublist k.waits := List.filter_sublist
  have hup := up_sub hsub h.up
  unfold ackd
  split
  · exact ⟨Nat.le_refl _, Nat.le_refl _, List.Pairwise.nil, fun y hy => by cases hy⟩
  · split
    · rename_i hc
      have hgt : ∀ y ∈ without k.waits x.s, x.c < y.c ∧ x.s < y.s := fun y hy => by
        obtain ⟨hy1, hy2⟩ := without_mem.1 hy
        have h1 := h.w y hy1
        have h2 : y.c ≠ x.c := fun e => by
          have m1 := (up_mono h.up hx hy1).2
          have m2 := (up_mono h.up hy1 hx).2
          rcases Nat.lt_or_gt_of_ne hy2 with h3 | h3
          · have := m2 h3; omega
          · have := m1 h3; omega
        have h3 : x.c < y.c := by omega
        exact ⟨h3, (up_mono h.up hx hy1).1 h3⟩
      have hnf : (nextFloor k (without k.waits x.s) x.c x.s).1 ≤ k.dc ∧ (nextFloor k (without k.waits x.s) x.c x.s).2 ≤ k.ds ∧ ∀ y ∈ without k.waits x.s, (nextFloor k (without k.waits x.s) x.c x.s).1 < y.c ∧ (nextFloor k (without k.waits x.s) x.c x.s).2 < y.s := by
        unfold nextFloor
        split
        · split
          · rename_i p hp
            have hpm := List.mem_of_find?_eq_some hp
            have hpw := h.w p (without_mem.1 hpm).1
            refine ⟨by simp only; omega, by simp only; omega, fun y hy => ?_⟩
            obtain ⟨as, bs, hl, hno⟩ := List.find?_eq_some_iff_append.1 hp |>.2
            rw [hl] at hy
            rcases List.mem_append.1 hy with hy' | hy'
            · have h1 := hno y hy'
              have h2 := hgt y (by rw [hl]; exact List.mem_append_left _ hy')
              simp at h1
              omega
            · rcases List.mem_cons.1 hy' with rfl | hy''
              · simp only; omega
              · have h3 := hup
                rw [hl] at h3
                have h4 := (List.pairwise_append.1 h3).2.1
                have h5 := (List.pairwise_cons.1 h4).1 y hy''
                simp only
                omega
          · exact ⟨by simp only; omega, by simp only; omega, fun y hy => hgt y hy⟩
        · exact ⟨by simp only; omega, by simp only; omega, fun y hy => hgt y hy⟩
      refine ⟨hnf.1, hnf.2.1, hup, fun y hy => ?_⟩
      have h1 := h.w y (without_mem.1 hy).1
      have h2 := hnf.2.2 y hy
      exact ⟨h2.2, h1.2.1, h2.1, h1.2.2.2⟩
    · refine ⟨hfc, hfs, hup, fun y hy => h.w y (without_mem.1 hy).1⟩
theorem ackd_waits (k : Kp) (c s : Nat) : (ackd k c s).waits = without k.waits s := by
  unfold ackd
  split
  · rename_i h; simp [h]
  · split <;> rfl
theorem ackd_del (k : Kp) (c s : Nat) : (ackd k c s).dc = k.dc ∧ (ackd k c s).ds = k.ds := by
  unfold ackd
  split
  · exact ⟨rfl, rfl⟩
  · split <;> exact ⟨rfl, rfl⟩
theorem ackd_empty {k : Kp} {c s : Nat} (h : without k.waits s = []) : ackd k c s = { k with waits := [], fc := k.dc, fs := k.ds } := by
  unfold ackd; rw [if_pos h]
end Go.Proofs.YtchphfdoneckeaaDoor.Cs
