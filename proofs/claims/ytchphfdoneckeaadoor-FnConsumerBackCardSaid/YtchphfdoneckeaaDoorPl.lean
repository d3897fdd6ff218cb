/-
  Scripts: so many deliveries, then acknowledgements; plain.
-/
import Derived.Test.YtchphfdoneckeaaDoorDo
namespace Go.Proofs.YtchphfdoneckeaaDoor
open Cs (Wt Kp)

/-- behind i deliveries, the j-th of number f j -/
def dM (f : Nat → Nat) (t : Int) : Nat → Kp
  | 0 => Cs.k0
  | i + 1 => Cs.dlv (dM f t i) (i + 1) (f i) t
structure Grows (f : Nat → Nat) : Prop where
  pos : ∀ i, 1 ≤ f i
  up : ∀ i, f i < f (i + 1)
  small : ∀ i, i ≤ 12 → f i ≤ 1000
theorem dM_nums {f : Nat → Nat} (h : Grows f) (t : Int) : ∀ i, (dM f t i).dc = i ∧ (dM f t i).fc = 0 ∧ (dM f t i).fs = 0 ∧ (dM f t i).ds < f i ∧ (dM f t i).waits.length = i
  | 0 => ⟨rfl, rfl, rfl, h.pos 0, rfl⟩
  | i + 1 => by
    obtain ⟨h1, h2, h3, h4, h5⟩ := dM_nums h t i
    exact ⟨rfl, h2, h3, h.up i, by simp [dM, Cs.dlv, h5]⟩
theorem dM_sound {f : Nat → Nat} (h : Grows f) (t : Int) : ∀ i, Cs.Sound (dM f t i)
  | 0 => good_k0'
  | i + 1 => by
    obtain ⟨h1, _, _, h4, _⟩ := dM_nums h t i
    exact Cs.dlv_sound (dM_sound h t i) t (by omega) h4
where good_k0' : Cs.Sound Cs.k0 := ⟨Nat.le_refl _, Nat.le_refl _, List.Pairwise.nil, fun x hx => by cases hx⟩
theorem dM_waits {f : Nat → Nat} (t : Int) : ∀ i (x : Wt), x ∈ (dM f t i).waits ↔ ∃ j, j < i ∧ x = ⟨f j, j + 1, t⟩
  | 0, x => by simp [dM, Cs.k0]
  | i + 1, x => by
    simp only [dM, Cs.dlv, List.mem_append, List.mem_singleton, dM_waits t i x]
    constructor
    · rintro (⟨j, hj, e⟩ | e)
      · exact ⟨j, by omega, e⟩
      · exact ⟨i, by omega, e⟩
    · rintro ⟨j, hj, e⟩
      by_cases h : j = i
      · subst h; exact Or.inr e
      · exact Or.inl ⟨j, by omega, e⟩
theorem dM_ds {f : Nat → Nat} (t : Int) (i : Nat) : (dM f t (i + 1)).ds = f i := rfl
theorem dM_good {f : Nat → Nat} (h : Grows f) (t : Int) {i : Nat} (hi : i ≤ 12) : Good (dM f t i) := by
  obtain ⟨h1, _, _, h4, h5⟩ := dM_nums h t i
  have := h.small i hi
  exact ⟨dM_sound h t i, by omega, by omega, by omega⟩
theorem dM_does {f : Nat → Nat} (h : Grows f) (t : Int) {i : Nat} (hi : i < 12) : Does (dM f t i) (.dlv (i + 1) (f i) t) (dM f t (i + 1)) 0 := by
  obtain ⟨h1, _, _, h4, _⟩ := dM_nums h t i
  have := h.small i (by omega)
  exact ⟨by omega, h4, by omega, rfl, rfl⟩
/-- one is acknowledged -/
theorem acked_good {k : Kp} (h : Good k) {x : Wt} (hx : x ∈ k.waits) : Good (Cs.ackd k x.c x.s) := by
  have h1 := Cs.ackd_del k x.c x.s
  have h2 := Cs.ackd_waits k x.c x.s
  refine ⟨Cs.ackd_sound h.sound hx, by rw [h1.1]; exact h.dc, by rw [h1.2]; exact h.ds, ?_⟩
  rw [h2]
  have := Cs.without_length h.sound.up hx
  have := h.len
  omega
theorem acked_does {k : Kp} (h : Good k) {x : Wt} (hx : x ∈ k.waits) : Does k (.ack x.c x.s) (Cs.ackd k x.c x.s) 0 := by
  have := h.sound.w x hx
  have := h.ds
  exact ⟨by omega, Or.inl ⟨rfl, Or.inr ⟨x, hx, rfl, rfl, rfl⟩⟩⟩
/-- .. and once more -/
theorem again_does {k : Kp} (h : Good k) {x : Wt} (hx : x ∈ k.waits) : Does (Cs.ackd k x.c x.s) (.ack x.c x.s) (Cs.ackd k x.c x.s) (if x.c ≤ (Cs.ackd k x.c x.s).fc then 0 else 1) := by
  have := h.sound.w x hx
  have := h.ds
  refine ⟨by omega, ?_⟩
  by_cases hc : x.c ≤ (Cs.ackd k x.c x.s).fc
  · rw [if_pos hc]
    exact Or.inl ⟨rfl, Or.inl ⟨hc, rfl⟩⟩
  · rw [if_neg hc]
    refine Or.inr ⟨rfl, ⟨by omega, fun y hy => ?_⟩, rfl⟩
    rw [Cs.ackd_waits] at hy
    exact (Cs.without_mem.1 hy).2

/-! ## twice -/
def f1 (j : Nat) : Nat := j + 1
theorem grows1 : Grows f1 := ⟨fun i => by unfold f1; omega, fun i => by unfold f1; omega, fun i hi => by unfold f1; omega⟩
def twK (t : Int) (n p : Nat) (i : Nat) : Kp := if i ≤ n then dM f1 t i else Cs.ackd (dM f1 t n) (p + 1) (p + 1)
def twD (t : Int) (n p : Nat) (i : Nat) : Dd := if i < n then .dlv (i + 1) (i + 1) t else .ack (p + 1) (p + 1)
def twKd (t : Int) (n p : Nat) (i : Nat) : Int := if i ≤ n then 0 else if p + 1 ≤ (Cs.ackd (dM f1 t n) (p + 1) (p + 1)).fc then 0 else 1
theorem tw_mem (t : Int) {n p : Nat} (hp : p < n) : (⟨p + 1, p + 1, t⟩ : Wt) ∈ (dM f1 t n).waits := (dM_waits t n _).2 ⟨p, hp, rfl⟩
theorem tw_good (t : Int) {n p : Nat} (hn : n ≤ 12) (hp : p < n) (i : Nat) : Good (twK t n p i) := by
  unfold twK
  split
  · exact dM_good grows1 t (by omega)
  · exact acked_good (dM_good grows1 t hn) (tw_mem t hp)
theorem tw_does (t : Int) {n p : Nat} (hn : n ≤ 12) (hp : p < n) {i : Nat} (hi : i < n + 2) : Does (twK t n p i) (twD t n p i) (twK t n p (i + 1)) (twKd t n p i) := by
  unfold twK twD twKd
  by_cases h1 : i < n
  · rw [if_pos (by omega), if_pos h1, if_pos (by omega), if_pos (by omega)]
    exact dM_does grows1 t (by omega)
  · by_cases h2 : i = n
    · subst h2
      rw [if_pos (by omega), if_neg h1, if_neg (by omega), if_pos (by omega)]
      exact acked_does (dM_good grows1 t hn) (tw_mem t hp)
    · rw [if_neg (by omega), if_neg h1, if_neg (by omega), if_neg (by omega)]
      exact again_does (dM_good grows1 t hn) (tw_mem t hp)
theorem tw_len (t : Int) {n p : Nat} (hp : p < n) : (twK t n p (n + 1)).waits.length + 1 = n := by
  unfold twK
  rw [if_neg (by omega), Cs.ackd_waits]
  have h1 := (dM_nums grows1 t n).2.2.2.2
  have := Cs.without_length (dM_sound grows1 t n).up (tw_mem t hp)
  simp only at this
  omega
theorem tw_same (t : Int) (n p : Nat) : twK t n p (n + 2) = twK t n p (n + 1) := by
  unfold twK
  rw [if_neg (by omega), if_neg (by omega)]
end Go.Proofs.YtchphfdoneckeaaDoor
