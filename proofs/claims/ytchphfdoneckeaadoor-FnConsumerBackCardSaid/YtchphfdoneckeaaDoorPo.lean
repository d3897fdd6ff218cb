/-
  Scripts: acknowledgements in whatever order; plain.
-/
import Derived.Test.YtchphfdoneckeaaDoorPl
namespace Go.Proofs.YtchphfdoneckeaaDoor
open Cs (Wt Kp)

/-! ## in whatever order -/
/-- behind i acknowledgements in the order q -/
def ak (f : Nat → Nat) (t : Int) (n : Nat) (q : Nat → Nat) : Nat → Kp
  | 0 => dM f t n
  | i + 1 => Cs.ackd (ak f t n q i) (q i + 1) (f (q i))
structure Ord (n : Nat) (q : Nat → Nat) (i : Nat) : Prop where
  lt : ∀ l, l < i → q l < n
  ne : ∀ l m, l < m → m < i → q l ≠ q m
theorem Ord.sub {n i j : Nat} {q : Nat → Nat} (h : Ord n q i) (hj : j ≤ i) : Ord n q j := ⟨fun l hl => h.lt l (by omega), fun l m h1 h2 => h.ne l m h1 (by omega)⟩
theorem grows_lt {f : Nat → Nat} (h : Grows f) {i j : Nat} (hij : i < j) : f i < f j := by
  induction j with
  | zero => omega
  | succ j ih =>
    have := h.up j
    by_cases e : i = j
    · subst e; exact this
    · have := ih (by omega); omega
theorem grows_inj {f : Nat → Nat} (h : Grows f) {i j : Nat} (e : f i = f j) : i = j := by
  rcases Nat.lt_trichotomy i j with h1 | h1 | h1
  · have := grows_lt h h1; omega
  · exact h1
  · have := grows_lt h h1; omega
theorem ak_mem {f : Nat → Nat} (h : Grows f) (t : Int) (n : Nat) (q : Nat → Nat) : ∀ i (x : Wt), x ∈ (ak f t n q i).waits ↔ ∃ j, j < n ∧ x = ⟨f j, j + 1, t⟩ ∧ ∀ l, l < i → q l ≠ j
  | 0, x => by
    rw [ak, dM_waits]
    constructor
    · rintro ⟨j, hj, e⟩; exact ⟨j, hj, e, fun l hl => by omega⟩
    · rintro ⟨j, hj, e, _⟩; exact ⟨j, hj, e⟩
  | i + 1, x => by
    rw [ak, Cs.ackd_waits, Cs.without_mem, ak_mem h t n q i]
    constructor
    · rintro ⟨⟨j, hj, e, hl⟩, hne⟩
      refine ⟨j, hj, e, fun l hl' => ?_⟩
      by_cases e2 : l = i
      · subst e2
        intro e3
        exact hne (by rw [e, e3])
      · exact hl l (by omega)
    · rintro ⟨j, hj, e, hl⟩
      refine ⟨⟨j, hj, e, fun l hl' => hl l (by omega)⟩, fun e2 => ?_⟩
      rw [e] at e2
      exact hl i (by omega) (grows_inj h e2).symm
theorem ak_here {f : Nat → Nat} (h : Grows f) (t : Int) {n : Nat} {q : Nat → Nat} {i : Nat} (ho : Ord n q (i + 1)) : (⟨f (q i), q i + 1, t⟩ : Wt) ∈ (ak f t n q i).waits :=
  (ak_mem h t n q i _).2 ⟨q i, ho.lt i (by omega), rfl, fun l hl => ho.ne l i hl (by omega)⟩
theorem ak_good {f : Nat → Nat} (h : Grows f) (t : Int) {n : Nat} (hn : n ≤ 12) {q : Nat → Nat} : ∀ i, Ord n q i → Good (ak f t n q i)
  | 0, _ => dM_good h t hn
  | i + 1, ho => acked_good (ak_good h t hn i (ho.sub (by omega))) (ak_here h t ho)
theorem ak_len {f : Nat → Nat} (h : Grows f) (t : Int) {n : Nat} (hn : n ≤ 12) {q : Nat → Nat} : ∀ i, Ord n q i → (ak f t n q i).waits.length + i = n
  | 0, _ => (dM_nums h t n).2.2.2.2
  | i + 1, ho => by
    have h1 := ak_len h t hn i (ho.sub (by omega))
    have h2 := Cs.without_length (ak_good h t hn i (ho.sub (by omega))).sound.up (ak_here h t ho)
    rw [ak, Cs.ackd_waits]
    simp only at h2
    omega
theorem ak_del {f : Nat → Nat} (t : Int) {n : Nat} {q : Nat → Nat} : ∀ i, (ak f t n q i).dc = (dM f t n).dc ∧ (ak f t n q i).ds = (dM f t n).ds
  | 0 => ⟨rfl, rfl⟩
  | i + 1 => by
    have := ak_del (f := f) t (n := n) (q := q) i
    have h2 := Cs.ackd_del (ak f t n q i) (q i + 1) (f (q i))
    rw [ak]
    exact ⟨h2.1.trans this.1, h2.2.trans this.2⟩
theorem ak_last {f : Nat → Nat} (h : Grows f) (t : Int) {n : Nat} (hn : n ≤ 12) (h1 : 1 ≤ n) {q : Nat → Nat} (ho : Ord n q n) : ak f t n q n = ⟨(dM f t n).dc, (dM f t n).ds, (dM f t n).dc, (dM f t n).ds, []⟩ := by
  obtain ⟨m, rfl⟩ : ∃ m, n = m + 1 := ⟨n - 1, by omega⟩
  have h2 := ak_len h t hn (m + 1) ho
  have h3 := ak_del (f := f) t (n := m + 1) (q := q) m
  have e : Cs.without (ak f t (m + 1) q m).waits (f (q m)) = [] := by
    have : (ak f t (m + 1) q (m + 1)).waits.length = 0 := by omega
    rw [ak, Cs.ackd_waits] at this
    exact List.eq_nil_of_length_eq_zero this
  rw [ak, Cs.ackd_empty e, h3.1, h3.2]
def orK (f : Nat → Nat) (t : Int) (n : Nat) (q : Nat → Nat) (i : Nat) : Kp := if i ≤ n then dM f t i else ak f t n q (i - n)
def orD (f : Nat → Nat) (t : Int) (n : Nat) (q : Nat → Nat) (i : Nat) : Dd := if i < n then .dlv (i + 1) (f i) t else .ack (q (i - n) + 1) (f (q (i - n)))
theorem or_good {f : Nat → Nat} (h : Grows f) (t : Int) {n : Nat} (hn : n ≤ 12) {q : Nat → Nat} (ho : Ord n q n) {i : Nat} (hi : i ≤ 2 * n) : Good (orK f t n q i) := by
  unfold orK
  split
  · exact dM_good h t (by omega)
  · exact ak_good h t hn _ (ho.sub (by omega))
theorem or_does {f : Nat → Nat} (h : Grows f) (t : Int) {n : Nat} (hn : n ≤ 12) {q : Nat → Nat} (ho : Ord n q n) {i : Nat} (hi : i < 2 * n) : Does (orK f t n q i) (orD f t n q i) (orK f t n q (i + 1)) 0 := by
  unfold orK orD
  by_cases h1 : i < n
  · rw [if_pos (by omega), if_pos h1, if_pos (by omega)]
    exact dM_does h t (by omega)
  · have key : ∀ j, j + 1 ≤ n → Does (ak f t n q j) (.ack (q j + 1) (f (q j))) (ak f t n q (j + 1)) 0 := fun j hj =>
      acked_does (ak_good h t hn j (ho.sub (by omega))) (ak_here h t (ho.sub (by omega)))
    by_cases h2 : i = n
    · subst h2
      rw [if_pos (Nat.le_refl _), if_neg h1, if_neg (by omega)]
      have := key 0 (by omega)
      simpa [ak] using this
    · rw [if_neg (by omega), if_neg h1, if_neg (by omega), show i + 1 - n = i - n + 1 by omega]
      exact key (i - n) (by omega)
theorem or_len {f : Nat → Nat} (h : Grows f) (t : Int) {n : Nat} (hn : n ≤ 12) {q : Nat → Nat} (ho : Ord n q n) {i : Nat} (hi : i ≤ 2 * n) : (orK f t n q i).waits.length = if i ≤ n then i else 2 * n - i := by
  unfold orK
  split
  · exact (dM_nums h t i).2.2.2.2
  · have := ak_len h t hn (i - n) (ho.sub (by omega))
    omega
theorem or_last {f : Nat → Nat} (h : Grows f) (t : Int) {n : Nat} (hn : n ≤ 12) (h1 : 1 ≤ n) {q : Nat → Nat} (ho : Ord n q n) : orK f t n q (2 * n) = ⟨n, f (n - 1), n, f (n - 1), []⟩ := by
  unfold orK
  rw [if_neg (by omega), show 2 * n - n = n by omega, ak_last h t hn h1 ho]
  obtain ⟨m, rfl⟩ : ∃ m, n = m + 1 := ⟨n - 1, by omega⟩
  rfl
end Go.Proofs.YtchphfdoneckeaaDoor
