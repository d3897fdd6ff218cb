/-
  The texts that the reading machine reads are short. No program in sight.
-/
import Derived.Test.YtnjjhklefamaoaaDoorMach
namespace Go.Proofs.YtnjjhklefamaoaaDoor.Dn
/-- every text that was read is short -/
def Tight (i : Nat) (σ : St) : Prop := Fine i σ ∧ (∀ a ∈ σ.rdn, a.1.size ≤ i ∧ a.2.size ≤ i) ∧ ∀ l ∈ σ.dn, ∀ a ∈ l, a.1.size ≤ i ∧ a.2.size ≤ i
theorem Tight.step {s : List UInt8} {i j : Nat} {σ τ : St} (h : Tight i σ) (r : Step s i σ j τ) : Tight j τ := by
  obtain ⟨hf, h1, h2⟩ := h
  have hlt := r.lt.1
  refine ⟨hf.step r, ?_⟩
  have g1 : ∀ a ∈ σ.rdn, a.1.size ≤ j ∧ a.2.size ≤ j := fun a ha => ⟨by have := (h1 a ha).1; omega, by have := (h1 a ha).2; omega⟩
  have g2 : ∀ l ∈ σ.dn, ∀ a ∈ l, a.1.size ≤ j ∧ a.2.size ≤ j := fun l hl a ha => ⟨by have := (h2 l hl a ha).1; omega, by have := (h2 l hl a ha).2; omega⟩
  have g3 : σ.ty.size ≤ j ∧ (strOf σ.buf σ.sp).size ≤ j := ⟨by have := hf.2.2.2.2.2; omega, by rw [strOf_size]; have := hf.2.1; omega⟩
  have g4 : ∀ a ∈ σ.rdn ++ [(σ.ty, strOf σ.buf σ.sp)], a.1.size ≤ j ∧ a.2.size ≤ j := fun a ha => by
    rw [List.mem_append, List.mem_singleton] at ha
    rcases ha with ha | rfl
    · exact g1 a ha
    · exact g3
  cases r
  case comma =>
    refine ⟨(fun a ha => by cases ha), fun l hl => ?_⟩
    simp only [List.mem_append, List.mem_singleton] at hl
    rcases hl with hl | rfl
    · exact g2 l hl
    · exact g4
  case plus => exact ⟨g4, g2⟩
  all_goals exact ⟨g1, g2⟩
theorem tight_init : Tight 0 init := ⟨fine_init, (fun _ h => by cases h), fun _ h => by cases h⟩
theorem Runs.tight {s : List UInt8} {i j : Nat} {σ τ : St} (r : Runs s i σ j τ) (h : Tight i σ) : Tight j τ := by
  induction r with
  | nil => exact h
  | cons a _ ih => exact ih (h.step a)
theorem final_tight {j : Nat} {σ : St} (h : Tight j σ) : (final σ).length ≤ j + 1 ∧ ∀ l ∈ final σ, l.length ≤ j + 1 ∧ ∀ a ∈ l, a.1.size ≤ j ∧ a.2.size ≤ j := by
  obtain ⟨hf, h1, h2⟩ := h
  unfold final
  split
  · exact ⟨by have := hf.2.2.2.1; omega, fun l hl => ⟨by have := hf.2.2.2.2.1 l hl; omega, h2 l hl⟩⟩
  · refine ⟨by have := hf.2.2.2.1; simp; omega, fun l hl => ?_⟩
    rw [List.mem_append, List.mem_singleton] at hl
    rcases hl with hl | rfl
    · exact ⟨by have := hf.2.2.2.2.1 l hl; omega, h2 l hl⟩
    · refine ⟨by have := hf.2.2.1; simp; omega, fun a ha => ?_⟩
      rw [List.mem_append, List.mem_singleton] at ha
      rcases ha with ha | rfl
      · exact h1 a ha
      · exact ⟨hf.2.2.2.2.2, by rw [strOf_size]; have := hf.2.1; omega⟩
end Go.Proofs.YtnjjhklefamaoaaDoor.Dn
