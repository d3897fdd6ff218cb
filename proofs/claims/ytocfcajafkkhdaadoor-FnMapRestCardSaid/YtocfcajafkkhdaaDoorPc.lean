/-
  Pieces written one behind the other, a mark between them (plain).
-/
import Derived.Test.YtocfcajafkkhdaaDoorTk
namespace Go.Proofs.YtocfcajafkkhdaaDoor

def pc (f : Nat → List UInt8) (n : Nat) : Nat → List UInt8
  | 0 => []
  | j + 1 => pc f n j ++ f j ++ (if j + 1 < n then [46] else [])
theorem pc_open (f : Nat → List UInt8) (n : Nat) : ∀ j, j < n → ∀ r, r ≠ [] → pc f n j ++ jn 46 r = jn 46 ((List.range j).map f ++ r)
  | 0, _, r, _ => by simp [pc]
  | j + 1, h, r, hr => by
    have ih := pc_open f n j (by omega) (f j :: r) (by simp)
    rw [jn_cons 46 (f j) hr] at ih
    rw [pc, if_pos h, List.range_succ, List.map_append, List.append_assoc, List.append_assoc]
    simpa using ih
theorem pc_all (f : Nat → List UInt8) (n : Nat) (h : 0 < n) : pc f n n = jn 46 ((List.range n).map f) := by
  obtain ⟨m, rfl⟩ : ∃ m, n = m + 1 := ⟨n - 1, by omega⟩
  have := pc_open f (m + 1) m (by omega) [f m] (by simp)
  rw [pc, if_neg (by omega), List.append_nil, List.range_succ, List.map_append]
  simpa [jn] using this
end Go.Proofs.YtocfcajafkkhdaaDoor
